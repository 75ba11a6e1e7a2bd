import JvmDerived
import JvmDerived.Pilot.@@N@@Statement
import JvmDerived.Pilot.@@N@@Code
set_option linter.unusedVariables false
set_option linter.unusedSimpArgs false
@@BLOCK:NumsL.lean.txt@@
namespace Jvm.RoadKit
open Sem ClassFile Op Lib Jvm.Stand Jvm.Free Jvm.LawKit
section New
variable {p : Program} {l : Launch} {e : Env} {R : Room} {s : State} {m : MethodId} {args : Array Value} {below : List Frame} {meth : Method} {c : Code} {T : State} {locs : List Loc} {cells slots : Nat}
theorem retI (X : Stand p l e R s m args below meth c T locs cells slots) (hx : p.tables.exec = Jvm.exec) {pc : Nat} {Ls : Array Slot} {z : Int32} {rest : List Value} (hret : meth.sig.returnType = some .int) (hd : decode c.code pc = .ok (.ireturn, 1)) {fs : List Frame}
    (hl : ∀ (f : JFrame) (acts : List Action), f.method = m → f.locked = none → f.entered = [] → (doReturn e (T.setTop f) acts (some (.int z))).1 = T.setFrames fs) : Steps p.tables e below (T.setTop (mkF m pc Ls (.int z :: rest))) (T.setFrames fs) := by
  have hm' : T.vm.method? m = some meth := X.method'
  have hn : narrow .int (.int z) = .int z := rfl
  show Steps p.tables e below (T.setTop { method := m, pc := pc, locals := Ls, stack := _ :: rest, locked := none }) _
  jvm_step X.here [X.here.top, hx, hd, hm', hret, hn]
  first | (intro acts; rw [hl _ acts rfl rfl rfl]) | rw [hl _ _ rfl rfl rfl]
  exact Steps.refl _
end New
end Jvm.RoadKit
namespace Jvm.Pilot.@@N@@
open Jvm Jvm.ClassFile Sem Op Lib Jvm.Free Jvm.Stand Jvm.LawKit Jvm.RoadKit Bundle Jvm.Pilot.@@N@@.Jvm.D
/-! OWN KIT: a run that comes to an end, one law an instruction, arrays as lists (written once, pasted by wip/gen/lawgen.py) -/
section OwnKit
variable {p : Program} {l : Launch} {e : Env} {R : Room} {s : State} {m : MethodId} {args : Array Value} {below : List Frame} {meth : Method} {c : Code} {T T' : State} {locs : List Loc} {cells slots : Nat} {Z : State} {a0 : Array Value} {h h' : Heap}
variable {Q : Outcome → State → Prop} {K : Option Value → Heap → List Loc → Prop} {cc ss : Nat}
variable {pc pc' pc1 pc2 : Nat} {Ls l' : Array Slot} {rest : List Value} {x y : Int32} {u w : Int64}
/-- from T, with g on top, the run comes to an end of which Q holds -/
def own_Go (p : Program) (e : Env) (below : List Frame) (Q : Outcome → State → Prop) (T : State) (g : JFrame) : Prop :=
  ∃ s₂ o, Steps p.tables e below (T.setTop g) s₂ ∧ s₂.status = .running ∧ Ended s₂ below o ∧ Q o s₂
/-- what a body's end says: it returned, K holds of the value, the heap and the old places written -/
def own_Q (s : State) (K : Option Value → Heap → List Loc → Prop) (cc ss : Nat) : Outcome → State → Prop := fun o t => ∃ v L, o = .returned v ∧ K v t.heap L ∧ FrameEnd s o t L cc ss
/-- what stands fast in one body -/
def own_Cx (p : Program) (s : State) (m : MethodId) (meth : Method) (c : Code) (Z : State) (a0 : Array Value) (bytes : ByteArray) (ml : Nat) (own : String) (rt : Option FieldType) (nm : String) : Prop :=
  p.tables.exec = Jvm.exec ∧ Z.Warmed39 s.vm ∧ (∀ d ∈ tables_1, d.before a0 Z = true) ∧ c.code = bytes ∧ c.maxLocals = ml ∧ s.vm.findClass own = some m.cls ∧ meth.sig.returnType = rt ∧ meth.locks = false ∧ meth.name = nm
theorem own_go {g g' : JFrame} (st : ∀ t, Steps p.tables e below (T'.setTop g') t → Steps p.tables e below (T.setTop g) t) (k : own_Go p e below Q T' g') : own_Go p e below Q T g := by
  obtain ⟨s₂, o, h1, h2⟩ := k
  exact ⟨s₂, o, st _ h1, h2⟩
theorem o_iloadN (X : Stand p l e R s m args below meth c T locs cells slots) (hx : p.tables.exec = Jvm.exec) {k : Fin 4} {v : Int32} (hd : decode c.code pc = .ok (.iload_n k, 1)) (hl : Ls[k.val]? = some (.val (.int v))) (hp : pc + 1 = pc') (q : own_Go p e below Q T (mkF m pc' Ls (.int v :: rest))) : own_Go p e below Q T (mkF m pc Ls rest) := by
  subst hp; exact own_go (fun t k' => XS.iloadN X.here hx rfl hd hl k') q
theorem o_iload (X : Stand p l e R s m args below meth c T locs cells slots) (hx : p.tables.exec = Jvm.exec) {k : Nat} {v : Int32} (hd : decode c.code pc = .ok (.iload k, 2)) (hl : Ls[k]? = some (.val (.int v))) (hp : pc + 2 = pc') (q : own_Go p e below Q T (mkF m pc' Ls (.int v :: rest))) : own_Go p e below Q T (mkF m pc Ls rest) := by
  subst hp; exact own_go (fun t k' => XS.iload X.here hx rfl hd hl k') q
theorem o_lloadN (X : Stand p l e R s m args below meth c T locs cells slots) (hx : p.tables.exec = Jvm.exec) {k : Fin 4} {v : Int64} (hd : decode c.code pc = .ok (.lload_n k, 1)) (hl : Ls[k.val]? = some (.val (.long v))) (hp : pc + 1 = pc') (q : own_Go p e below Q T (mkF m pc' Ls (.long v :: rest))) : own_Go p e below Q T (mkF m pc Ls rest) := by
  subst hp; exact own_go (fun t k' => XS.lloadN X.here hx rfl hd hl k') q
theorem o_lload (X : Stand p l e R s m args below meth c T locs cells slots) (hx : p.tables.exec = Jvm.exec) {k : Nat} {v : Int64} (hd : decode c.code pc = .ok (.lload k, 2)) (hl : Ls[k]? = some (.val (.long v))) (hp : pc + 2 = pc') (q : own_Go p e below Q T (mkF m pc' Ls (.long v :: rest))) : own_Go p e below Q T (mkF m pc Ls rest) := by
  subst hp; exact own_go (fun t k' => XS.lload X.here hx rfl hd hl k') q
theorem o_aloadN (X : Stand p l e R s m args below meth c T locs cells slots) (hx : p.tables.exec = Jvm.exec) {k : Fin 4} {v : Value} (hd : decode c.code pc = .ok (.aload_n k, 1)) (hl : Ls[k.val]? = some (.val v)) (hv : v.isRef = true) (hp : pc + 1 = pc') (q : own_Go p e below Q T (mkF m pc' Ls (v :: rest))) : own_Go p e below Q T (mkF m pc Ls rest) := by
  subst hp; exact own_go (fun t k' => XS.aloadN X.here hx rfl hd hl hv k') q
theorem o_aload (X : Stand p l e R s m args below meth c T locs cells slots) (hx : p.tables.exec = Jvm.exec) {k : Nat} {v : Value} (hd : decode c.code pc = .ok (.aload k, 2)) (hl : Ls[k]? = some (.val v)) (hv : v.isRef = true) (hp : pc + 2 = pc') (q : own_Go p e below Q T (mkF m pc' Ls (v :: rest))) : own_Go p e below Q T (mkF m pc Ls rest) := by
  subst hp; exact own_go (fun t k' => XS.aload X.here hx rfl hd hl hv k') q
theorem o_istoreN (X : Stand p l e R s m args below meth c T locs cells slots) (hx : p.tables.exec = Jvm.exec) {k : Fin 4} (hd : decode c.code pc = .ok (.istore_n k, 1)) (hl : storeLocals Ls k.val (.int x) = some l') (hp : pc + 1 = pc') (q : own_Go p e below Q T (mkF m pc' l' rest)) : own_Go p e below Q T (mkF m pc Ls (.int x :: rest)) := by
  subst hp; exact own_go (fun t k' => XS.istoreN X.here hx rfl hd rfl hl k') q
theorem o_istore (X : Stand p l e R s m args below meth c T locs cells slots) (hx : p.tables.exec = Jvm.exec) {k : Nat} (hd : decode c.code pc = .ok (.istore k, 2)) (hl : storeLocals Ls k (.int x) = some l') (hp : pc + 2 = pc') (q : own_Go p e below Q T (mkF m pc' l' rest)) : own_Go p e below Q T (mkF m pc Ls (.int x :: rest)) := by
  subst hp; exact own_go (fun t k' => XS.istore X.here hx rfl hd rfl hl k') q
theorem o_lstoreN (X : Stand p l e R s m args below meth c T locs cells slots) (hx : p.tables.exec = Jvm.exec) {k : Fin 4} (hd : decode c.code pc = .ok (.lstore_n k, 1)) (hl : storeLocals Ls k.val (.long u) = some l') (hp : pc + 1 = pc') (q : own_Go p e below Q T (mkF m pc' l' rest)) : own_Go p e below Q T (mkF m pc Ls (.long u :: rest)) := by
  subst hp; exact own_go (fun t k' => XS.lstoreN X.here hx rfl hd rfl hl k') q
theorem o_lstore (X : Stand p l e R s m args below meth c T locs cells slots) (hx : p.tables.exec = Jvm.exec) {k : Nat} (hd : decode c.code pc = .ok (.lstore k, 2)) (hl : storeLocals Ls k (.long u) = some l') (hp : pc + 2 = pc') (q : own_Go p e below Q T (mkF m pc' l' rest)) : own_Go p e below Q T (mkF m pc Ls (.long u :: rest)) := by
  subst hp; exact own_go (fun t k' => XS.lstore X.here hx rfl hd rfl hl k') q
theorem o_astoreN (X : Stand p l e R s m args below meth c T locs cells slots) (hx : p.tables.exec = Jvm.exec) {k : Fin 4} {v : Value} (hd : decode c.code pc = .ok (.astore_n k, 1)) (hv : v.isRef = true) (hl : storeLocals Ls k.val v = some l') (hp : pc + 1 = pc') (q : own_Go p e below Q T (mkF m pc' l' rest)) : own_Go p e below Q T (mkF m pc Ls (v :: rest)) := by
  subst hp; exact own_go (fun t k' => XS.astoreN X.here hx rfl hd rfl hv hl k') q
theorem o_astore (X : Stand p l e R s m args below meth c T locs cells slots) (hx : p.tables.exec = Jvm.exec) {k : Nat} {v : Value} (hd : decode c.code pc = .ok (.astore k, 2)) (hv : v.isRef = true) (hl : storeLocals Ls k v = some l') (hp : pc + 2 = pc') (q : own_Go p e below Q T (mkF m pc' l' rest)) : own_Go p e below Q T (mkF m pc Ls (v :: rest)) := by
  subst hp; exact own_go (fun t k' => XS.astore X.here hx rfl hd rfl hv hl k') q
theorem o_iconst (X : Stand p l e R s m args below meth c T locs cells slots) (hx : p.tables.exec = Jvm.exec) {i : Int} (hd : decode c.code pc = .ok (.iconst i, 1)) (hv : Int32.ofInt i = x) (hp : pc + 1 = pc') (q : own_Go p e below Q T (mkF m pc' Ls (.int x :: rest))) : own_Go p e below Q T (mkF m pc Ls rest) := by
  subst hp hv; exact own_go (fun t k' => XS.iconst X.here hx rfl hd k') q
theorem o_bipush (X : Stand p l e R s m args below meth c T locs cells slots) (hx : p.tables.exec = Jvm.exec) {i : Int} (hd : decode c.code pc = .ok (.bipush i, 2)) (hv : (Int8.ofInt i).toInt32 = x) (hp : pc + 2 = pc') (q : own_Go p e below Q T (mkF m pc' Ls (.int x :: rest))) : own_Go p e below Q T (mkF m pc Ls rest) := by
  subst hp hv; exact own_go (fun t k' => XS.bipush X.here hx rfl hd k') q
theorem o_sipush (X : Stand p l e R s m args below meth c T locs cells slots) (hx : p.tables.exec = Jvm.exec) {i : Int} (hd : decode c.code pc = .ok (.sipush i, 3)) (hv : (Int16.ofInt i).toInt32 = x) (hp : pc + 3 = pc') (q : own_Go p e below Q T (mkF m pc' Ls (.int x :: rest))) : own_Go p e below Q T (mkF m pc Ls rest) := by
  subst hp hv; exact own_go (fun t k' => XS.sipush X.here hx rfl hd k') q
theorem o_lconst (X : Stand p l e R s m args below meth c T locs cells slots) (hx : p.tables.exec = Jvm.exec) {k : Fin 2} (hd : decode c.code pc = .ok (.lconst k, 1)) (hv : Int64.ofNat k = u) (hp : pc + 1 = pc') (q : own_Go p e below Q T (mkF m pc' Ls (.long u :: rest))) : own_Go p e below Q T (mkF m pc Ls rest) := by
  subst hp hv; exact own_go (fun t k' => XS.lconst X.here hx rfl hd k') q
theorem o_ldcI (X : Stand p l e R s m args below meth c T locs cells slots) (hx : p.tables.exec = Jvm.exec) (hZ : Z.Warmed39 s.vm) {own : String} {index : Nat} (hown : s.vm.findClass own = some m.cls) (w1 : (Cond.constant own index x).before a0 Z = true) (hd : decode c.code pc = .ok (.ldc index, 2)) (hp : pc + 2 = pc') (q : own_Go p e below Q T (mkF m pc' Ls (.int x :: rest))) : own_Go p e below Q T (mkF m pc Ls rest) := by
  subst hp; exact own_go (fun t k' => X.ldcInt hx hown (mvT hZ w1) (g := mkF m pc Ls rest) rfl hd t k') q
theorem o_ldcL (X : Stand p l e R s m args below meth c T locs cells slots) (hx : p.tables.exec = Jvm.exec) (hZ : Z.Warmed39 s.vm) {own : String} {index : Nat} (hown : s.vm.findClass own = some m.cls) (w1 : (Cond.constantLong own index u).before a0 Z = true) (hd : decode c.code pc = .ok (.ldc2_w index, 3)) (hp : pc + 3 = pc') (q : own_Go p e below Q T (mkF m pc' Ls (.long u :: rest))) : own_Go p e below Q T (mkF m pc Ls rest) := by
  subst hp; exact own_go (fun t k' => X.ldc2Long hx hown (mvT hZ w1) (g := mkF m pc Ls rest) rfl hd t k') q
theorem o_iadd (X : Stand p l e R s m args below meth c T locs cells slots) (hx : p.tables.exec = Jvm.exec) (hd : decode c.code pc = .ok (.iadd, 1)) (hp : pc + 1 = pc') {z : Int32} (hz : x + y = z) (q : own_Go p e below Q T (mkF m pc' Ls (.int z :: rest))) : own_Go p e below Q T (mkF m pc Ls (.int y :: .int x :: rest)) := by
  subst hp hz; exact own_go (fun t k' => XS.iadd X.here hx rfl hd rfl k') q
theorem o_isub (X : Stand p l e R s m args below meth c T locs cells slots) (hx : p.tables.exec = Jvm.exec) (hd : decode c.code pc = .ok (.isub, 1)) (hp : pc + 1 = pc') {z : Int32} (hz : x - y = z) (q : own_Go p e below Q T (mkF m pc' Ls (.int z :: rest))) : own_Go p e below Q T (mkF m pc Ls (.int y :: .int x :: rest)) := by
  subst hp hz; exact own_go (fun t k' => XS.isub X.here hx rfl hd rfl k') q
theorem o_imul (X : Stand p l e R s m args below meth c T locs cells slots) (hx : p.tables.exec = Jvm.exec) (hd : decode c.code pc = .ok (.imul, 1)) (hp : pc + 1 = pc') {z : Int32} (hz : x * y = z) (q : own_Go p e below Q T (mkF m pc' Ls (.int z :: rest))) : own_Go p e below Q T (mkF m pc Ls (.int y :: .int x :: rest)) := by
  subst hp hz; exact own_go (fun t k' => XS.imul X.here hx rfl hd rfl k') q
theorem o_iand (X : Stand p l e R s m args below meth c T locs cells slots) (hx : p.tables.exec = Jvm.exec) (hd : decode c.code pc = .ok (.iand, 1)) (hp : pc + 1 = pc') {z : Int32} (hz : x &&& y = z) (q : own_Go p e below Q T (mkF m pc' Ls (.int z :: rest))) : own_Go p e below Q T (mkF m pc Ls (.int y :: .int x :: rest)) := by
  subst hp hz; exact own_go (fun t k' => XS.iand X.here hx rfl hd rfl k') q
theorem o_ior (X : Stand p l e R s m args below meth c T locs cells slots) (hx : p.tables.exec = Jvm.exec) (hd : decode c.code pc = .ok (.ior, 1)) (hp : pc + 1 = pc') {z : Int32} (hz : x ||| y = z) (q : own_Go p e below Q T (mkF m pc' Ls (.int z :: rest))) : own_Go p e below Q T (mkF m pc Ls (.int y :: .int x :: rest)) := by
  subst hp hz; exact own_go (fun t k' => XS.ior X.here hx rfl hd rfl k') q
theorem o_ixor (X : Stand p l e R s m args below meth c T locs cells slots) (hx : p.tables.exec = Jvm.exec) (hd : decode c.code pc = .ok (.ixor, 1)) (hp : pc + 1 = pc') {z : Int32} (hz : x ^^^ y = z) (q : own_Go p e below Q T (mkF m pc' Ls (.int z :: rest))) : own_Go p e below Q T (mkF m pc Ls (.int y :: .int x :: rest)) := by
  subst hp hz; exact own_go (fun t k' => XS.ixor X.here hx rfl hd rfl k') q
/-- Java's shifts, remainders: under names of our own -/
def own_shl (x y : Int32) : Int32 := x <<< (y &&& 31)
def own_shr (x y : Int32) : Int32 := x >>> (y &&& 31)
def own_ushr (x y : Int32) : Int32 := (x.toUInt32 >>> (y &&& 31).toUInt32).toInt32
def own_rem (x y : Int32) : Int32 := x - (x / y) * y
def own_lshl (u : Int64) (y : Int32) : Int64 := u <<< (y &&& 0x3f).toInt64
def own_lushr (u : Int64) (y : Int32) : Int64 := (u.toUInt64 >>> (y &&& 0x3f).toInt64.toUInt64).toInt64
def own_lrem (u w : Int64) : Int64 := u - (u / w) * w
theorem o_ishl (X : Stand p l e R s m args below meth c T locs cells slots) (hx : p.tables.exec = Jvm.exec) (hd : decode c.code pc = .ok (.ishl, 1)) (hp : pc + 1 = pc') {z : Int32} (hz : own_shl x y = z) (q : own_Go p e below Q T (mkF m pc' Ls (.int z :: rest))) : own_Go p e below Q T (mkF m pc Ls (.int y :: .int x :: rest)) := by
  subst hp hz; exact own_go (fun t k' => XS.ishl X.here hx rfl hd rfl k') q
theorem o_ishr (X : Stand p l e R s m args below meth c T locs cells slots) (hx : p.tables.exec = Jvm.exec) (hd : decode c.code pc = .ok (.ishr, 1)) (hp : pc + 1 = pc') {z : Int32} (hz : own_shr x y = z) (q : own_Go p e below Q T (mkF m pc' Ls (.int z :: rest))) : own_Go p e below Q T (mkF m pc Ls (.int y :: .int x :: rest)) := by
  subst hp hz; exact own_go (fun t k' => XS.ishr X.here hx rfl hd rfl k') q
theorem o_iushr (X : Stand p l e R s m args below meth c T locs cells slots) (hx : p.tables.exec = Jvm.exec) (hd : decode c.code pc = .ok (.iushr, 1)) (hp : pc + 1 = pc') {z : Int32} (hz : own_ushr x y = z) (q : own_Go p e below Q T (mkF m pc' Ls (.int z :: rest))) : own_Go p e below Q T (mkF m pc Ls (.int y :: .int x :: rest)) := by
  subst hp hz; exact own_go (fun t k' => XS.iushr X.here hx rfl hd rfl k') q
theorem o_irem (X : Stand p l e R s m args below meth c T locs cells slots) (hx : p.tables.exec = Jvm.exec) (hd : decode c.code pc = .ok (.irem, 1)) (hp : pc + 1 = pc') (hy : y ≠ 0) {z : Int32} (hz : own_rem x y = z) (q : own_Go p e below Q T (mkF m pc' Ls (.int z :: rest))) : own_Go p e below Q T (mkF m pc Ls (.int y :: .int x :: rest)) := by
  subst hp hz; exact own_go (fun t k' => XS.irem X.here hx rfl hd rfl hy k') q
theorem o_idiv (X : Stand p l e R s m args below meth c T locs cells slots) (hx : p.tables.exec = Jvm.exec) (hd : decode c.code pc = .ok (.idiv, 1)) (hp : pc + 1 = pc') (hy : y ≠ 0) {z : Int32} (hz : x / y = z) (q : own_Go p e below Q T (mkF m pc' Ls (.int z :: rest))) : own_Go p e below Q T (mkF m pc Ls (.int y :: .int x :: rest)) := by
  subst hp hz; exact own_go (fun t k' => XS.idiv X.here hx rfl hd rfl hy k') q
theorem o_ineg (X : Stand p l e R s m args below meth c T locs cells slots) (hx : p.tables.exec = Jvm.exec) (hd : decode c.code pc = .ok (.ineg, 1)) (hp : pc + 1 = pc') {z : Int32} (hz : -x = z) (q : own_Go p e below Q T (mkF m pc' Ls (.int z :: rest))) : own_Go p e below Q T (mkF m pc Ls (.int x :: rest)) := by
  subst hp hz; exact own_go (fun t k' => XS.ineg X.here hx rfl hd rfl k') q
theorem o_ladd (X : Stand p l e R s m args below meth c T locs cells slots) (hx : p.tables.exec = Jvm.exec) (hd : decode c.code pc = .ok (.ladd, 1)) (hp : pc + 1 = pc') {z : Int64} (hz : u + w = z) (q : own_Go p e below Q T (mkF m pc' Ls (.long z :: rest))) : own_Go p e below Q T (mkF m pc Ls (.long w :: .long u :: rest)) := by
  subst hp hz; exact own_go (fun t k' => XS.ladd X.here hx rfl hd rfl k') q
theorem o_lsub (X : Stand p l e R s m args below meth c T locs cells slots) (hx : p.tables.exec = Jvm.exec) (hd : decode c.code pc = .ok (.lsub, 1)) (hp : pc + 1 = pc') {z : Int64} (hz : u - w = z) (q : own_Go p e below Q T (mkF m pc' Ls (.long z :: rest))) : own_Go p e below Q T (mkF m pc Ls (.long w :: .long u :: rest)) := by
  subst hp hz; exact own_go (fun t k' => XS.lsub X.here hx rfl hd rfl k') q
theorem o_lmul (X : Stand p l e R s m args below meth c T locs cells slots) (hx : p.tables.exec = Jvm.exec) (hd : decode c.code pc = .ok (.lmul, 1)) (hp : pc + 1 = pc') {z : Int64} (hz : u * w = z) (q : own_Go p e below Q T (mkF m pc' Ls (.long z :: rest))) : own_Go p e below Q T (mkF m pc Ls (.long w :: .long u :: rest)) := by
  subst hp hz; exact own_go (fun t k' => XS.lmul X.here hx rfl hd rfl k') q
theorem o_land (X : Stand p l e R s m args below meth c T locs cells slots) (hx : p.tables.exec = Jvm.exec) (hd : decode c.code pc = .ok (.land, 1)) (hp : pc + 1 = pc') {z : Int64} (hz : u &&& w = z) (q : own_Go p e below Q T (mkF m pc' Ls (.long z :: rest))) : own_Go p e below Q T (mkF m pc Ls (.long w :: .long u :: rest)) := by
  subst hp hz; exact own_go (fun t k' => XS.land X.here hx rfl hd rfl k') q
theorem o_lor (X : Stand p l e R s m args below meth c T locs cells slots) (hx : p.tables.exec = Jvm.exec) (hd : decode c.code pc = .ok (.lor, 1)) (hp : pc + 1 = pc') {z : Int64} (hz : u ||| w = z) (q : own_Go p e below Q T (mkF m pc' Ls (.long z :: rest))) : own_Go p e below Q T (mkF m pc Ls (.long w :: .long u :: rest)) := by
  subst hp hz; exact own_go (fun t k' => XS.lor X.here hx rfl hd rfl k') q
theorem o_lxor (X : Stand p l e R s m args below meth c T locs cells slots) (hx : p.tables.exec = Jvm.exec) (hd : decode c.code pc = .ok (.lxor, 1)) (hp : pc + 1 = pc') {z : Int64} (hz : u ^^^ w = z) (q : own_Go p e below Q T (mkF m pc' Ls (.long z :: rest))) : own_Go p e below Q T (mkF m pc Ls (.long w :: .long u :: rest)) := by
  subst hp hz; exact own_go (fun t k' => XS.lxor X.here hx rfl hd rfl k') q
theorem o_lshl (X : Stand p l e R s m args below meth c T locs cells slots) (hx : p.tables.exec = Jvm.exec) (hd : decode c.code pc = .ok (.lshl, 1)) (hp : pc + 1 = pc') {z : Int64} (hz : own_lshl u y = z) (q : own_Go p e below Q T (mkF m pc' Ls (.long z :: rest))) : own_Go p e below Q T (mkF m pc Ls (.int y :: .long u :: rest)) := by
  subst hp hz; exact own_go (fun t k' => XS.lshl X.here hx rfl hd rfl k') q
theorem o_lushr (X : Stand p l e R s m args below meth c T locs cells slots) (hx : p.tables.exec = Jvm.exec) (hd : decode c.code pc = .ok (.lushr, 1)) (hp : pc + 1 = pc') {z : Int64} (hz : own_lushr u y = z) (q : own_Go p e below Q T (mkF m pc' Ls (.long z :: rest))) : own_Go p e below Q T (mkF m pc Ls (.int y :: .long u :: rest)) := by
  subst hp hz; exact own_go (fun t k' => XS.lushr X.here hx rfl hd rfl k') q
theorem o_ldiv (X : Stand p l e R s m args below meth c T locs cells slots) (hx : p.tables.exec = Jvm.exec) (hd : decode c.code pc = .ok (.ldiv, 1)) (hp : pc + 1 = pc') (hy : w ≠ 0) {z : Int64} (hz : u / w = z) (q : own_Go p e below Q T (mkF m pc' Ls (.long z :: rest))) : own_Go p e below Q T (mkF m pc Ls (.long w :: .long u :: rest)) := by
  subst hp hz; exact own_go (fun t k' => XS.ldiv X.here hx rfl hd rfl hy k') q
theorem o_lrem (X : Stand p l e R s m args below meth c T locs cells slots) (hx : p.tables.exec = Jvm.exec) (hd : decode c.code pc = .ok (.lrem, 1)) (hp : pc + 1 = pc') (hy : w ≠ 0) {z : Int64} (hz : own_lrem u w = z) (q : own_Go p e below Q T (mkF m pc' Ls (.long z :: rest))) : own_Go p e below Q T (mkF m pc Ls (.long w :: .long u :: rest)) := by
  subst hp hz; exact own_go (fun t k' => XS.lrem X.here hx rfl hd rfl hy k') q
theorem o_i2l (X : Stand p l e R s m args below meth c T locs cells slots) (hx : p.tables.exec = Jvm.exec) (hd : decode c.code pc = .ok (.i2l, 1)) (hp : pc + 1 = pc') {z : Int64} (hz : x.toInt64 = z) (q : own_Go p e below Q T (mkF m pc' Ls (.long z :: rest))) : own_Go p e below Q T (mkF m pc Ls (.int x :: rest)) := by
  subst hp hz; exact own_go (fun t k' => XS.i2l X.here hx rfl hd rfl k') q
theorem o_l2i (X : Stand p l e R s m args below meth c T locs cells slots) (hx : p.tables.exec = Jvm.exec) (hd : decode c.code pc = .ok (.l2i, 1)) (hp : pc + 1 = pc') {z : Int32} (hz : u.toInt32 = z) (q : own_Go p e below Q T (mkF m pc' Ls (.int z :: rest))) : own_Go p e below Q T (mkF m pc Ls (.long u :: rest)) := by
  subst hp hz; exact own_go (fun t k' => XS.l2i X.here hx rfl hd rfl k') q
def own_i2b (x : Int32) : Int32 := x.toInt8.toInt32
def own_i2c (x : Int32) : Int32 := x.toUInt32.toUInt16.toUInt32.toInt32
theorem o_i2b (X : Stand p l e R s m args below meth c T locs cells slots) (hx : p.tables.exec = Jvm.exec) (hd : decode c.code pc = .ok (.i2b, 1)) (hp : pc + 1 = pc') {z : Int32} (hz : own_i2b x = z) (q : own_Go p e below Q T (mkF m pc' Ls (.int z :: rest))) : own_Go p e below Q T (mkF m pc Ls (.int x :: rest)) := by
  subst hp hz; exact own_go (fun t k' => XS.i2b X.here hx rfl hd rfl k') q
theorem o_i2c (X : Stand p l e R s m args below meth c T locs cells slots) (hx : p.tables.exec = Jvm.exec) (hd : decode c.code pc = .ok (.i2c, 1)) (hp : pc + 1 = pc') {z : Int32} (hz : own_i2c x = z) (q : own_Go p e below Q T (mkF m pc' Ls (.int z :: rest))) : own_Go p e below Q T (mkF m pc Ls (.int x :: rest)) := by
  subst hp hz; exact own_go (fun t k' => XS.i2c X.here hx rfl hd rfl k') q
theorem o_iinc (X : Stand p l e R s m args below meth c T locs cells slots) (hx : p.tables.exec = Jvm.exec) {k : Nat} {i : Int} (hd : decode c.code pc = .ok (.iinc k i, 3)) (hl : Ls[k]? = some (.val (.int x))) (hz : x + Int32.ofInt i = y) (hl' : storeLocals Ls k (.int y) = some l') (hp : pc + 3 = pc') (q : own_Go p e below Q T (mkF m pc' l' rest)) : own_Go p e below Q T (mkF m pc Ls rest) := by
  subst hp hz; exact own_go (fun t k' => XS.iinc X.here hx rfl hd hl hl' k') q
theorem o_dup (X : Stand p l e R s m args below meth c T locs cells slots) (hx : p.tables.exec = Jvm.exec) {v : Value} (hd : decode c.code pc = .ok (.dup, 1)) (hv : v.category = 1) (hp : pc + 1 = pc') (q : own_Go p e below Q T (mkF m pc' Ls (v :: v :: rest))) : own_Go p e below Q T (mkF m pc Ls (v :: rest)) := by
  subst hp; exact own_go (fun t k' => XS.dup X.here hx rfl hd rfl hv k') q
theorem o_pop (X : Stand p l e R s m args below meth c T locs cells slots) (hx : p.tables.exec = Jvm.exec) {v : Value} (hd : decode c.code pc = .ok (.pop, 1)) (hv : v.category = 1) (hp : pc + 1 = pc') (q : own_Go p e below Q T (mkF m pc' Ls rest)) : own_Go p e below Q T (mkF m pc Ls (v :: rest)) := by
  subst hp; exact own_go (fun t k' => XS.pop X.here hx rfl hd rfl hv k') q
theorem o_goto (X : Stand p l e R s m args below meth c T locs cells slots) (hx : p.tables.exec = Jvm.exec) {o : Int} (hd : decode c.code pc = .ok (.goto o, 3)) (ho : 0 ≤ (pc : Int) + o) (hp : ((pc : Int) + o).toNat = pc') (q : own_Go p e below Q T (mkF m pc' Ls rest)) : own_Go p e below Q T (mkF m pc Ls rest) :=
  own_go (fun t k' => XS.goto X.here hx rfl rfl hd ho hp k') q
theorem o_ifP (X : Stand p l e R s m args below meth c T locs cells slots) (hx : p.tables.exec = Jvm.exec) {cd : ClassFile.Cond} {o : Int} {P : Prop} [Decidable P] (hP : P → ifCond.holds cd x = true) (hN : ¬ P → ifCond.holds cd x = false) (hd : decode c.code pc = .ok (.ifCond cd o, 3)) (ho : 0 ≤ (pc : Int) + o) (hp : ((pc : Int) + o).toNat = pc1) (hp2 : pc + 3 = pc2)
    (kt : P → own_Go p e below Q T (mkF m pc1 Ls rest)) (kf : ¬ P → own_Go p e below Q T (mkF m pc2 Ls rest)) : own_Go p e below Q T (mkF m pc Ls (.int x :: rest)) := by
  subst hp2
  by_cases q : P
  · exact own_go (fun t k' => XS.ifYes X.here hx rfl rfl hd rfl (hP q) ho hp k') (kt q)
  · exact own_go (fun t k' => XS.ifNo X.here hx rfl hd rfl (hN q) k') (kf q)
theorem o_ifN (X : Stand p l e R s m args below meth c T locs cells slots) (hx : p.tables.exec = Jvm.exec) {cd : ClassFile.Cond} {o : Int} {P : Prop} [Decidable P] (hP : P → ifCond.holds cd x = false) (hN : ¬ P → ifCond.holds cd x = true) (hd : decode c.code pc = .ok (.ifCond cd o, 3)) (ho : 0 ≤ (pc : Int) + o) (hp : ((pc : Int) + o).toNat = pc1) (hp2 : pc + 3 = pc2)
    (kt : ¬ P → own_Go p e below Q T (mkF m pc1 Ls rest)) (kf : P → own_Go p e below Q T (mkF m pc2 Ls rest)) : own_Go p e below Q T (mkF m pc Ls (.int x :: rest)) := by
  subst hp2
  by_cases q : P
  · exact own_go (fun t k' => XS.ifNo X.here hx rfl hd rfl (hP q) k') (kf q)
  · exact own_go (fun t k' => XS.ifYes X.here hx rfl rfl hd rfl (hN q) ho hp k') (kt q)
theorem o_icP (X : Stand p l e R s m args below meth c T locs cells slots) (hx : p.tables.exec = Jvm.exec) {cd : ClassFile.Cond} {o : Int} {P : Prop} [Decidable P] (hP : P → if_icmp.holds cd x y = true) (hN : ¬ P → if_icmp.holds cd x y = false) (hd : decode c.code pc = .ok (.if_icmp cd o, 3)) (ho : 0 ≤ (pc : Int) + o) (hp : ((pc : Int) + o).toNat = pc1) (hp2 : pc + 3 = pc2)
    (kt : P → own_Go p e below Q T (mkF m pc1 Ls rest)) (kf : ¬ P → own_Go p e below Q T (mkF m pc2 Ls rest)) : own_Go p e below Q T (mkF m pc Ls (.int y :: .int x :: rest)) := by
  subst hp2
  by_cases q : P
  · exact own_go (fun t k' => XS.icmpYes X.here hx rfl rfl hd rfl (hP q) ho hp k') (kt q)
  · exact own_go (fun t k' => XS.icmpNo X.here hx rfl hd rfl (hN q) k') (kf q)
theorem o_icN (X : Stand p l e R s m args below meth c T locs cells slots) (hx : p.tables.exec = Jvm.exec) {cd : ClassFile.Cond} {o : Int} {P : Prop} [Decidable P] (hP : P → if_icmp.holds cd x y = false) (hN : ¬ P → if_icmp.holds cd x y = true) (hd : decode c.code pc = .ok (.if_icmp cd o, 3)) (ho : 0 ≤ (pc : Int) + o) (hp : ((pc : Int) + o).toNat = pc1) (hp2 : pc + 3 = pc2)
    (kt : ¬ P → own_Go p e below Q T (mkF m pc1 Ls rest)) (kf : P → own_Go p e below Q T (mkF m pc2 Ls rest)) : own_Go p e below Q T (mkF m pc Ls (.int y :: .int x :: rest)) := by
  subst hp2
  by_cases q : P
  · exact own_go (fun t k' => XS.icmpNo X.here hx rfl hd rfl (hP q) k') (kf q)
  · exact own_go (fun t k' => XS.icmpYes X.here hx rfl rfl hd rfl (hN q) ho hp k') (kt q)
/-- a branch that goes one way for sure -/
theorem o_ifY (X : Stand p l e R s m args below meth c T locs cells slots) (hx : p.tables.exec = Jvm.exec) {cd : ClassFile.Cond} {o : Int} (hc : ifCond.holds cd x = true) (hd : decode c.code pc = .ok (.ifCond cd o, 3)) (ho : 0 ≤ (pc : Int) + o) (hp : ((pc : Int) + o).toNat = pc') (q : own_Go p e below Q T (mkF m pc' Ls rest)) : own_Go p e below Q T (mkF m pc Ls (.int x :: rest)) :=
  own_go (fun t k' => XS.ifYes X.here hx rfl rfl hd rfl hc ho hp k') q
theorem o_ifX (X : Stand p l e R s m args below meth c T locs cells slots) (hx : p.tables.exec = Jvm.exec) {cd : ClassFile.Cond} {o : Int} (hc : ifCond.holds cd x = false) (hd : decode c.code pc = .ok (.ifCond cd o, 3)) (hp : pc + 3 = pc') (q : own_Go p e below Q T (mkF m pc' Ls rest)) : own_Go p e below Q T (mkF m pc Ls (.int x :: rest)) := by
  subst hp; exact own_go (fun t k' => XS.ifNo X.here hx rfl hd rfl hc k') q
theorem o_icY (X : Stand p l e R s m args below meth c T locs cells slots) (hx : p.tables.exec = Jvm.exec) {cd : ClassFile.Cond} {o : Int} (hc : if_icmp.holds cd x y = true) (hd : decode c.code pc = .ok (.if_icmp cd o, 3)) (ho : 0 ≤ (pc : Int) + o) (hp : ((pc : Int) + o).toNat = pc') (q : own_Go p e below Q T (mkF m pc' Ls rest)) : own_Go p e below Q T (mkF m pc Ls (.int y :: .int x :: rest)) :=
  own_go (fun t k' => XS.icmpYes X.here hx rfl rfl hd rfl hc ho hp k') q
theorem o_icX (X : Stand p l e R s m args below meth c T locs cells slots) (hx : p.tables.exec = Jvm.exec) {cd : ClassFile.Cond} {o : Int} (hc : if_icmp.holds cd x y = false) (hd : decode c.code pc = .ok (.if_icmp cd o, 3)) (hp : pc + 3 = pc') (q : own_Go p e below Q T (mkF m pc' Ls rest)) : own_Go p e below Q T (mkF m pc Ls (.int y :: .int x :: rest)) := by
  subst hp; exact own_go (fun t k' => XS.icmpNo X.here hx rfl hd rfl hc k') q
theorem o_lcmp (X : Stand p l e R s m args below meth c T locs cells slots) (hx : p.tables.exec = Jvm.exec) (hd : decode c.code pc = .ok (.lcmp, 1)) (hp : pc + 1 = pc') (q : own_Go p e below Q T (mkF m pc' Ls (.int (XT.cmpL u w) :: rest))) : own_Go p e below Q T (mkF m pc Ls (.long w :: .long u :: rest)) := by
  subst hp; exact own_go (fun t k' => XS.lcmp X.here hx rfl hd rfl k') q
theorem o_ifnullX (X : Stand p l e R s m args below meth c T locs cells slots) (hx : p.tables.exec = Jvm.exec) {o : Int} {a : Addr} (hd : decode c.code pc = .ok (.ifnull o, 3)) (hp : pc + 3 = pc') (q : own_Go p e below Q T (mkF m pc' Ls rest)) : own_Go p e below Q T (mkF m pc Ls (.ref a :: rest)) := by
  subst hp; exact own_go (fun t k' => XS.ifnullNo X.here hx rfl hd rfl k') q
/-- the ends -/
theorem o_ret (X : Stand p l e R s m args below meth c T locs cells slots) {v : Option Value} {g : JFrame} (hv : meth.sig.returnType = none → v = none) (hlk : meth.locks = false) (hc : cells ≤ cc) (hs : slots ≤ ss) (eT : T.heap = h) (hK : K v h locs)
    (st : ∀ fs : List Frame, (∀ (f : JFrame) (acts : List Action), f.method = m → f.locked = none → f.entered = [] → (doReturn e (T.setTop f) acts v).1 = T.setFrames fs) → Steps p.tables e below (T.setTop g) (T.setFrames fs)) : own_Go p e below (own_Q s K cc ss) T g := by
  subst eT
  obtain ⟨fs, hr, hrun, hended, hW, hsame⟩ := X.leave (v := v) hv hlk
  exact ⟨_, _, st fs hr, hrun, hended, _, _, rfl, hK, ⟨_, rfl⟩, hW, hsame.mono hc hs⟩
theorem o_retV (X : Stand p l e R s m args below meth c T locs cells slots) (hx : p.tables.exec = Jvm.exec) (hret : meth.sig.returnType = none) (hlk : meth.locks = false) (hd : decode c.code pc = .ok (.return_, 1)) (hc : cells ≤ cc) (hs : slots ≤ ss) (eT : T.heap = h) (hK : K none h locs) : own_Go p e below (own_Q s K cc ss) T (mkF m pc Ls []) :=
  o_ret X (fun _ => rfl) hlk hc hs eT hK fun fs hr => X.returnOut hx hret hd hr
theorem o_retI (X : Stand p l e R s m args below meth c T locs cells slots) (hx : p.tables.exec = Jvm.exec) (hret : meth.sig.returnType = some .int) (hlk : meth.locks = false) (hd : decode c.code pc = .ok (.ireturn, 1)) (hc : cells ≤ cc) (hs : slots ≤ ss) (eT : T.heap = h) (hK : K (some (.int x)) h locs) : own_Go p e below (own_Q s K cc ss) T (mkF m pc Ls (.int x :: rest)) :=
  o_ret X (fun h => by rw [hret] at h; cases h) hlk hc hs eT hK fun fs hr => retI X hx hret hd hr
theorem o_retN (X : Stand p l e R s m args below meth c T locs cells slots) (hx : p.tables.exec = Jvm.exec) {t : FieldType} (hret : meth.sig.returnType = some t) (ht : t = .boolean ∨ t = .byte ∨ t = .char ∨ t = .short) (hlk : meth.locks = false) (hd : decode c.code pc = .ok (.ireturn, 1)) (hc : cells ≤ cc) (hs : slots ≤ ss) (eT : T.heap = h) (hK : K (some (.int (nar t x))) h locs) : own_Go p e below (own_Q s K cc ss) T (mkF m pc Ls (.int x :: rest)) :=
  o_ret X (fun h => by rw [hret] at h; cases h) hlk hc hs eT hK fun fs hr => retN X hx hret ht hd hr
theorem o_retL (X : Stand p l e R s m args below meth c T locs cells slots) (hx : p.tables.exec = Jvm.exec) (hret : meth.sig.returnType = some .long) (hlk : meth.locks = false) (hd : decode c.code pc = .ok (.lreturn, 1)) (hc : cells ≤ cc) (hs : slots ≤ ss) (eT : T.heap = h) (hK : K (some (.long u)) h locs) : own_Go p e below (own_Q s K cc ss) T (mkF m pc Ls (.long u :: rest)) :=
  o_ret X (fun h => by rw [hret] at h; cases h) hlk hc hs eT hK fun fs hr => by
    jvm_step X.here [X.here.top, hx, hd, X.method', hret, narrow]
    first | (intro acts; rw [hr _ acts rfl rfl rfl]) | rw [hr _ _ rfl rfl rfl]
    exact Steps.refl _
theorem o_retA (X : Stand p l e R s m args below meth c T locs cells slots) (hx : p.tables.exec = Jvm.exec) {t : FieldType} (hret : meth.sig.returnType = some (.array t)) (hlk : meth.locks = false) {a : Addr} (hd : decode c.code pc = .ok (.areturn, 1)) (hc : cells ≤ cc) (hs : slots ≤ ss) (eT : T.heap = h) (hK : K (some (.ref a)) h locs) : own_Go p e below (own_Q s K cc ss) T (mkF m pc Ls (.ref a :: rest)) :=
  o_ret X (fun h => by rw [hret] at h; cases h) hlk hc hs eT hK fun fs hr => by
    jvm_step X.here [X.here.top, hx, hd, X.method', hret, Value.isRef, FieldType.isReference]
    first | (intro acts; rw [hr _ acts rfl rfl rfl]) | rw [hr _ _ rfl rfl rfl]
    exact Steps.refl _
/-- arrays as lists -/
def own_AI (Z : State) (h : Heap) (a : Addr) (ty : FieldType) (vs : List Int32) : Prop := ∃ cl : Cell, Arr Z h a cl ty ∧ cl.slots = (vs.map Value.int).toArray
def own_AJ (Z : State) (h : Heap) (a : Addr) (vs : List Int64) : Prop := ∃ cl : Cell, Arr Z h a cl .long ∧ cl.slots = (vs.map Value.long).toArray
def own_in (n : Nat) (j : Int32) : Prop := ¬ j < 0 ∧ j.toNatClampNeg < n
def own_get (vs : List Int32) (j : Int32) : Int32 := vs.getD j.toNatClampNeg 0
def own_getL (vs : List Int64) (j : Int32) : Int64 := vs.getD j.toNatClampNeg 0
def own_set (vs : List Int32) (j x : Int32) : List Int32 := vs.set j.toNatClampNeg x
def own_setL (vs : List Int64) (j : Int32) (u : Int64) : List Int64 := vs.set j.toNatClampNeg u
theorem own_AI.lt {a : Addr} {ty : FieldType} {vs : List Int32} (A : own_AI Z h a ty vs) : a < h.size := by obtain ⟨cl, A, -⟩ := A; exact A.lt
theorem own_AI.ext {a : Addr} {ty : FieldType} {vs : List Int32} (A : own_AI Z h a ty vs) (E : Ext h h') : own_AI Z h' a ty vs := by obtain ⟨cl, A, q⟩ := A; exact ⟨cl, A.ext E, q⟩
theorem own_AI.other {a b : Addr} {ty : FieldType} {vs : List Int32} {sl : Nat} {v : Value} (A : own_AI Z h a ty vs) (W : Wr h h' b sl v) (ne : a ≠ b) : own_AI Z h' a ty vs := by obtain ⟨cl, A, q⟩ := A; exact ⟨cl, A.other W ne, q⟩
theorem own_AI.keep {a : Addr} {ty : FieldType} {vs : List Int32} {ws : List Addr} (A : own_AI Z h a ty vs) (K : Keep h h' ws) (ne : a ∉ ws) : own_AI Z h' a ty vs := by obtain ⟨cl, A, q⟩ := A; exact ⟨cl, ⟨K.2.1 a cl A.1 ne, A.2⟩, q⟩
theorem own_AI.put {a : Addr} {ty : FieldType} {vs : List Int32} {j : Int32} (A : own_AI Z h a ty vs) (W : Wr h h' a j.toNatClampNeg (.int x)) : own_AI Z h' a ty (own_set vs j x) := by
  obtain ⟨cl, A, q⟩ := A
  refine ⟨_, A.same W, ?_⟩
  show cl.slots.setIfInBounds _ _ = _
  rw [q, own_set, List.map_set, List.setIfInBounds_toArray]
theorem own_AJ.lt {a : Addr} {vs : List Int64} (A : own_AJ Z h a vs) : a < h.size := by obtain ⟨cl, A, -⟩ := A; exact A.lt
theorem own_AJ.ext {a : Addr} {vs : List Int64} (A : own_AJ Z h a vs) (E : Ext h h') : own_AJ Z h' a vs := by obtain ⟨cl, A, q⟩ := A; exact ⟨cl, A.ext E, q⟩
theorem own_AJ.other {a b : Addr} {vs : List Int64} {sl : Nat} {v : Value} (A : own_AJ Z h a vs) (W : Wr h h' b sl v) (ne : a ≠ b) : own_AJ Z h' a vs := by obtain ⟨cl, A, q⟩ := A; exact ⟨cl, A.other W ne, q⟩
theorem own_AJ.keep {a : Addr} {vs : List Int64} {ws : List Addr} (A : own_AJ Z h a vs) (K : Keep h h' ws) (ne : a ∉ ws) : own_AJ Z h' a vs := by obtain ⟨cl, A, q⟩ := A; exact ⟨cl, ⟨K.2.1 a cl A.1 ne, A.2⟩, q⟩
theorem own_AJ.put {a : Addr} {vs : List Int64} {j : Int32} (A : own_AJ Z h a vs) (W : Wr h h' a j.toNatClampNeg (.long u)) : own_AJ Z h' a (own_setL vs j u) := by
  obtain ⟨cl, A, q⟩ := A
  refine ⟨_, A.same W, ?_⟩
  show cl.slots.setIfInBounds _ _ = _
  rw [q, own_setL, List.map_set, List.setIfInBounds_toArray]
theorem own_inA {n : Nat} {j : Int32} {cl : Cell} (hj : own_in n j) (hn : cl.slots.size = n) : ¬ (j < 0 ∨ cl.slots.size ≤ j.toNatClampNeg) := fun q => q.elim hj.1 fun q => by rw [hn] at q; exact Nat.not_lt.mpr q hj.2
theorem own_szI {cl : Cell} {vs : List Int32} (q : cl.slots = (vs.map Value.int).toArray) : cl.slots.size = vs.length := by rw [q]; simp
theorem own_szJ {cl : Cell} {vs : List Int64} (q : cl.slots = (vs.map Value.long).toArray) : cl.slots.size = vs.length := by rw [q]; simp
theorem own_atI {cl : Cell} {vs : List Int32} {j : Int32} (q : cl.slots = (vs.map Value.int).toArray) (hj : own_in vs.length j) : cl.slots[j.toNatClampNeg]? = some (.int (own_get vs j)) := by
  rw [q, List.getElem?_toArray, List.getElem?_map, List.getElem?_eq_getElem hj.2, own_get, List.getD_eq_getElem?_getD, List.getElem?_eq_getElem hj.2]; rfl
theorem own_atJ {cl : Cell} {vs : List Int64} {j : Int32} (q : cl.slots = (vs.map Value.long).toArray) (hj : own_in vs.length j) : cl.slots[j.toNatClampNeg]? = some (.long (own_getL vs j)) := by
  rw [q, List.getElem?_toArray, List.getElem?_map, List.getElem?_eq_getElem hj.2, own_getL, List.getD_eq_getElem?_getD, List.getElem?_eq_getElem hj.2]; rfl
theorem o_iaload (X : Stand p l e R s m args below meth c T locs cells slots) (hx : p.tables.exec = Jvm.exec) (hZ : Z.Warmed39 s.vm) (eT : T.heap = h) {a : Addr} {vs : List Int32} {j : Int32} (A : own_AI Z h a .int vs) (hj : own_in vs.length j) (hd : decode c.code pc = .ok (.iaload, 1)) (hp : pc + 1 = pc') (hv : own_get vs j = x) (q : own_Go p e below Q T (mkF m pc' Ls (.int x :: rest))) : own_Go p e below Q T (mkF m pc Ls (.int j :: .ref a :: rest)) := by
  subst hp hv
  obtain ⟨cl, A, qs⟩ := A
  exact own_go (fun t k' => X.iaload hx (by rw [eT]; exact A.1) (State.isArrayOf_alike hZ.alike A.2.1) A.2.2 (own_inA hj (own_szI qs)) (own_atI qs hj) (g := mkF m pc Ls (.int j :: .ref a :: rest)) rfl rfl hd t k') q
theorem o_baload (X : Stand p l e R s m args below meth c T locs cells slots) (hx : p.tables.exec = Jvm.exec) (hZ : Z.Warmed39 s.vm) (eT : T.heap = h) {a : Addr} {vs : List Int32} {j : Int32} (A : own_AI Z h a .byte vs) (hj : own_in vs.length j) (hd : decode c.code pc = .ok (.baload, 1)) (hp : pc + 1 = pc') (hv : own_get vs j = x) (q : own_Go p e below Q T (mkF m pc' Ls (.int x :: rest))) : own_Go p e below Q T (mkF m pc Ls (.int j :: .ref a :: rest)) := by
  subst hp hv
  obtain ⟨cl, A, qs⟩ := A
  exact own_go (fun t k' => X.baloadBytes hx (by rw [eT]; exact A.1) (State.isArrayOf_alike hZ.alike A.2.1) A.2.2 (own_inA hj (own_szI qs)) (own_atI qs hj) (g := mkF m pc Ls (.int j :: .ref a :: rest)) rfl rfl hd t k') q
theorem o_laload (X : Stand p l e R s m args below meth c T locs cells slots) (hx : p.tables.exec = Jvm.exec) (hZ : Z.Warmed39 s.vm) (eT : T.heap = h) {a : Addr} {vs : List Int64} {j : Int32} (A : own_AJ Z h a vs) (hj : own_in vs.length j) (hd : decode c.code pc = .ok (.laload, 1)) (hp : pc + 1 = pc') (hv : own_getL vs j = u) (q : own_Go p e below Q T (mkF m pc' Ls (.long u :: rest))) : own_Go p e below Q T (mkF m pc Ls (.int j :: .ref a :: rest)) := by
  subst hp hv
  obtain ⟨cl, A, qs⟩ := A
  exact own_go (fun t k' => X.laload hx (by rw [eT]; exact A.1) (State.isArrayOf_alike hZ.alike A.2.1) A.2.2 (own_inA hj (own_szJ qs)) (own_atJ qs hj) (g := mkF m pc Ls (.int j :: .ref a :: rest)) rfl rfl hd t k') q
/-- the length as arraylength pushes it -/
def own_len (n : Nat) : Int32 := n.toInt32
theorem o_alenI (X : Stand p l e R s m args below meth c T locs cells slots) (hx : p.tables.exec = Jvm.exec) (hZ : Z.Warmed39 s.vm) (eT : T.heap = h) {a : Addr} {ty : FieldType} {vs : List Int32} (A : own_AI Z h a ty vs) (hd : decode c.code pc = .ok (.arraylength, 1)) (hp : pc + 1 = pc') (hv : own_len vs.length = x) (q : own_Go p e below Q T (mkF m pc' Ls (.int x :: rest))) : own_Go p e below Q T (mkF m pc Ls (.ref a :: rest)) := by
  subst hp hv
  obtain ⟨cl, A, qs⟩ := A
  refine own_go (fun t k' => X.arraylength hx (by rw [eT]; exact A.1) (State.isArrayOf_alike hZ.alike A.2.1) (g := mkF m pc Ls (.ref a :: rest)) rfl rfl hd t k') ?_
  rw [own_szI qs]; exact q
theorem o_alenJ (X : Stand p l e R s m args below meth c T locs cells slots) (hx : p.tables.exec = Jvm.exec) (hZ : Z.Warmed39 s.vm) (eT : T.heap = h) {a : Addr} {vs : List Int64} (A : own_AJ Z h a vs) (hd : decode c.code pc = .ok (.arraylength, 1)) (hp : pc + 1 = pc') (hv : own_len vs.length = x) (q : own_Go p e below Q T (mkF m pc' Ls (.int x :: rest))) : own_Go p e below Q T (mkF m pc Ls (.ref a :: rest)) := by
  subst hp hv
  obtain ⟨cl, A, qs⟩ := A
  refine own_go (fun t k' => X.arraylength hx (by rw [eT]; exact A.1) (State.isArrayOf_alike hZ.alike A.2.1) (g := mkF m pc Ls (.ref a :: rest)) rfl rfl hd t k') ?_
  rw [own_szJ qs]; exact q
/-- stores: the place stays in locs -/
theorem o_iastore (X : Stand p l e R s m args below meth c T locs cells slots) (hx : p.tables.exec = Jvm.exec) (hZ : Z.Warmed39 s.vm) (eT : T.heap = h) {a : Addr} {vs vs' : List Int32} {j : Int32} (A : own_AI Z h a .int vs) (hj : own_in vs.length j) (hd : decode c.code pc = .ok (.iastore, 1)) (hp : pc + 1 = pc') (hv : own_set vs j x = vs')
    (k : ∀ T' h', Stand p l e R s m args below meth c T' (locs ++ [⟨a, j.toNatClampNeg⟩]) cells slots → T'.heap = h' → Wr h h' a j.toNatClampNeg (.int x) → own_AI Z h' a .int vs' → own_Go p e below Q T' (mkF m pc' Ls rest)) : own_Go p e below Q T (mkF m pc Ls (.int x :: .int j :: .ref a :: rest)) := by
  subst hp hv
  obtain ⟨cl, A', qs⟩ := id A
  obtain ⟨T', h', X', e', W, st⟩ := stI X hx hZ eT A' (own_inA hj (own_szI qs)) (g := mkF m pc Ls (.int x :: .int j :: .ref a :: rest)) rfl rfl hd
  exact own_go st (k T' h' X' e' W (A.put W))
theorem o_bastore (X : Stand p l e R s m args below meth c T locs cells slots) (hx : p.tables.exec = Jvm.exec) (hZ : Z.Warmed39 s.vm) (eT : T.heap = h) {a : Addr} {vs vs' : List Int32} {j : Int32} (A : own_AI Z h a .byte vs) (hj : own_in vs.length j) (hd : decode c.code pc = .ok (.bastore, 1)) (hp : pc + 1 = pc') (hv : own_set vs j (own_i2b x) = vs')
    (k : ∀ T' h', Stand p l e R s m args below meth c T' (locs ++ [⟨a, j.toNatClampNeg⟩]) cells slots → T'.heap = h' → Wr h h' a j.toNatClampNeg (.int (own_i2b x)) → own_AI Z h' a .byte vs' → own_Go p e below Q T' (mkF m pc' Ls rest)) : own_Go p e below Q T (mkF m pc Ls (.int x :: .int j :: .ref a :: rest)) := by
  subst hp hv
  obtain ⟨cl, A', qs⟩ := id A
  obtain ⟨T', h', X', e', W, st⟩ := stB X hx hZ eT A' (own_inA hj (own_szI qs)) (g := mkF m pc Ls (.int x :: .int j :: .ref a :: rest)) rfl rfl hd
  exact own_go st (k T' h' X' e' W (A.put W))
theorem o_lastore (X : Stand p l e R s m args below meth c T locs cells slots) (hx : p.tables.exec = Jvm.exec) (hZ : Z.Warmed39 s.vm) (eT : T.heap = h) {a : Addr} {vs vs' : List Int64} {j : Int32} (A : own_AJ Z h a vs) (hj : own_in vs.length j) (hd : decode c.code pc = .ok (.lastore, 1)) (hp : pc + 1 = pc') (hv : own_setL vs j u = vs')
    (k : ∀ T' h', Stand p l e R s m args below meth c T' (locs ++ [⟨a, j.toNatClampNeg⟩]) cells slots → T'.heap = h' → Wr h h' a j.toNatClampNeg (.long u) → own_AJ Z h' a vs' → own_Go p e below Q T' (mkF m pc' Ls rest)) : own_Go p e below Q T (mkF m pc Ls (.long u :: .int j :: .ref a :: rest)) := by
  subst hp hv
  obtain ⟨cl, A', qs⟩ := id A
  obtain ⟨T', h', X', e', W, st⟩ := stJ X hx hZ eT A' (own_inA hj (own_szJ qs)) (g := mkF m pc Ls (.long u :: .int j :: .ref a :: rest)) rfl rfl hd
  exact own_go st (k T' h' X' e' W (A.put W))
theorem own_sz (X : Stand p l e R s m args below meth c T locs cells slots) (eT : T.heap = h) : s.heap.size ≤ h.size := by
  have q := X.same.2.1
  rw [← eT]; exact q
/-- the place written lies in a cell made since the start: it needn't be told -/
theorem own_drop {a : Addr} {j : Nat} (X : Stand p l e R s m args below meth c T (locs ++ [⟨a, j⟩]) cells slots) (ha : s.heap.size ≤ a) : Stand p l e R s m args below meth c T locs cells slots := X.forget fun y hy => by cases List.mem_singleton.mp hy; exact ha
theorem own_dropL {L : List Loc} {k : Nat} (X : Stand p l e R s m args below meth c T (locs ++ L) cells slots) (ha : s.heap.size ≤ k) (hL : ∀ y ∈ L, k ≤ y.base) : Stand p l e R s m args below meth c T locs cells slots := X.forget fun y hy => Nat.le_trans ha (hL y hy)
/-- newarray -/
theorem o_newI (X : Stand p l e R s m args below meth c T locs cells slots) (hx : p.tables.exec = Jvm.exec) (hZ : Z.Warmed39 s.vm) (eT : T.heap = h) {aty : ArrayType} {ty : FieldType} (w1 : (Cond.arrayClass ty).before a0 Z = true) (hty : newarray.typeOf aty = ty) (hdv : defaultValue ty = .int 0) (hd : decode c.code pc = .ok (.newarray aty, 2)) (hp : pc + 2 = pc') (hn : ¬ x < 0) {cap : Nat} (hcap : x.toNatClampNeg ≤ cap) (hb : cap * 8 ≤ 536870912) (hc : cells + 1 ≤ R.cells) (hs : slots + cap ≤ R.slots) {vs : List Int32} (hv : List.replicate x.toNatClampNeg 0 = vs)
    (k : ∀ T' h' a, Stand p l e R s m args below meth c T' locs (cells + 1) (slots + cap) → T'.heap = h' → h.size = a → Ext h h' → own_AI Z h' a ty vs → own_Go p e below Q T' (mkF m pc' Ls (.ref a :: rest))) : own_Go p e below Q T (mkF m pc Ls (.int x :: rest)) := by
  subst hp hv hty
  obtain ⟨T', h', cA, X', e', E, A, st⟩ := newP X hx hZ w1 eT (g := mkF m pc Ls (.int x :: rest)) rfl hd rfl hn hcap hb hc hs
  exact own_go st (k T' h' _ X' e' rfl E ⟨_, A, by simp [newA, hdv]⟩)
theorem o_newJ (X : Stand p l e R s m args below meth c T locs cells slots) (hx : p.tables.exec = Jvm.exec) (hZ : Z.Warmed39 s.vm) (eT : T.heap = h) (w1 : (Cond.arrayClass .long).before a0 Z = true) (hd : decode c.code pc = .ok (.newarray .long, 2)) (hp : pc + 2 = pc') (hn : ¬ x < 0) {cap : Nat} (hcap : x.toNatClampNeg ≤ cap) (hb : cap * 8 ≤ 536870912) (hc : cells + 1 ≤ R.cells) (hs : slots + cap ≤ R.slots) {vs : List Int64} (hv : List.replicate x.toNatClampNeg 0 = vs)
    (k : ∀ T' h' a, Stand p l e R s m args below meth c T' locs (cells + 1) (slots + cap) → T'.heap = h' → h.size = a → Ext h h' → own_AJ Z h' a vs → own_Go p e below Q T' (mkF m pc' Ls (.ref a :: rest))) : own_Go p e below Q T (mkF m pc Ls (.int x :: rest)) := by
  subst hp hv
  obtain ⟨T', h', cA, X', e', E, A, st⟩ := newP X hx hZ (aty := .long) w1 eT (g := mkF m pc Ls (.int x :: rest)) rfl hd rfl hn hcap hb hc hs
  exact own_go st (k T' h' _ X' e' rfl E ⟨_, A, by simp [newA, show defaultValue (newarray.typeOf .long) = Value.long 0 from rfl]⟩)
/-- a static call by the callee's contract -/
theorem o_callS (X : Stand p l e R s m args below meth c T locs cells slots) (hx : p.tables.exec = Jvm.exec) (hZ : Z.Warmed39 s.vm) (eT : T.heap = h) {own : String} {index : Nat} {y : MethodName} {bytes : ByteArray} {maxL : Nat} {ret : Option FieldType} {rm : Room} {W : Nat} (hown : s.vm.findClass own = some m.cls)
    (w1 : (Cond.methodLink own index y).before a0 Z = true) (w2 : (Cond.static y).before a0 Z = true) (w3 : (Cond.initialized y.cls).before a0 Z = true) (w4 : (Cond.code y bytes maxL ret).before a0 Z = true) (hy : y.cls ≠ "java/lang/invoke/MethodHandle" ∧ y.cls ≠ "java/lang/invoke/VarHandle") {as' : Array Value} {K : Option Value → Heap → List Loc → Prop}
    (hM : MetFree l y (head1 [Cond.code y bytes maxL ret] rm) (fun a U => a = as' ∧ Z.Warmed39 U.vm ∧ U.heap = h) (fun _ _ _ _ _ => True) (fun _ U o U' => ∃ v L, o = .returned v ∧ K v U'.heap L ∧ FrameEnd U o U' L rm.cells rm.slots))
    (hf : rm.frames + 1 ≤ R.frames) (hl : W + (maxL + 11) + rm.locals ≤ R.locals) (hml : Ls.size = c.maxLocals) {argsL st : List Value} {sig : MethodDescriptor} (hpd : parseMethodDescriptor y.desc = some sig) (hlen : argsL.length = sig.parameters.length) (hst : st = argsL.reverse ++ rest) (has : argsL.toArray = as') (hW : (rest.map fun v => v.category).sum = W)
    (hd : decode c.code pc = .ok (.invokestatic index, 3)) (hp : pc + 3 = pc') (hc : cells + rm.cells ≤ R.cells) (hs : slots + rm.slots ≤ R.slots)
    (k : ∀ v T' L, Stand p l e R s m args below meth c T' (locs ++ L) (cells + rm.cells) (slots + rm.slots) → K v T'.heap L → own_Go p e below Q T' (mkF m pc' Ls (v.toList ++ rest))) : own_Go p e below Q T (mkF m pc Ls st) := by
  subst hp hst has
  obtain ⟨v, _, ⟨T1, L1, k1, n1⟩, -, X1, ⟨Lc, hQ, l1, y1, z1⟩, st1⟩ := Jvm.LawKit.callS X hx hown (mvT hZ w1) (mvT hZ w2) (mvT hZ w3) (mvT hZ w4) hy (backOf (W := W) hM hZ w4 w3 hf hl) (g := mkF m pc Ls (argsL.reverse ++ rest)) rfl hml (argsL := argsL) (rest := rest) (fun sg hsg => by cases hpd.symm.trans hsg; exact hlen) rfl (by show 2 * 0 + _ ≤ _; rw [hW]; omega) hd (fun _ _ => ⟨rfl, eT, hc, hs⟩)
  dsimp only [Pt.U, Pt.locs, Pt.cells, Pt.slots] at X1 l1 y1 z1 st1 hQ
  subst l1 y1 z1
  exact own_go st1 (k v T1 Lc X1 hQ)
/-- a body that writes nothing: what it returns, the heap as it was -/
def own_KP (V : Option Value) (h0 : Heap) : Option Value → Heap → List Loc → Prop := fun v h L => v = V ∧ h = h0 ∧ L = []
/-- a law: what it returns; nothing old is written -/
def own_KL (V : Option Value) : Option Value → Heap → List Loc → Prop := fun v _ L => v = V ∧ L = []
theorem o_callP (X : Stand p l e R s m args below meth c T locs cells slots) (hx : p.tables.exec = Jvm.exec) (hZ : Z.Warmed39 s.vm) (eT : T.heap = h) {own : String} {index : Nat} {y : MethodName} {bytes : ByteArray} {maxL : Nat} {ret : Option FieldType} {rm : Room} {W : Nat} (hown : s.vm.findClass own = some m.cls)
    (w1 : (Cond.methodLink own index y).before a0 Z = true) (w2 : (Cond.static y).before a0 Z = true) (w3 : (Cond.initialized y.cls).before a0 Z = true) (w4 : (Cond.code y bytes maxL ret).before a0 Z = true) (hy : y.cls ≠ "java/lang/invoke/MethodHandle" ∧ y.cls ≠ "java/lang/invoke/VarHandle") {as' : Array Value} {V : Option Value}
    (hM : MetFree l y (head1 [Cond.code y bytes maxL ret] rm) (fun a U => a = as' ∧ Z.Warmed39 U.vm ∧ U.heap = h) (fun _ _ _ _ _ => True) (fun _ U o U' => ∃ v L, o = .returned v ∧ own_KP V h v U'.heap L ∧ FrameEnd U o U' L rm.cells rm.slots))
    (hf : rm.frames + 1 ≤ R.frames) (hl : W + (maxL + 11) + rm.locals ≤ R.locals) (hml : Ls.size = c.maxLocals) {argsL st : List Value} {sig : MethodDescriptor} (hpd : parseMethodDescriptor y.desc = some sig) (hlen : argsL.length = sig.parameters.length) (hst : st = argsL.reverse ++ rest) (has : argsL.toArray = as') (hW : (rest.map fun v => v.category).sum = W)
    (hd : decode c.code pc = .ok (.invokestatic index, 3)) (hp : pc + 3 = pc') (hc0 : rm.cells = 0) (hs0 : rm.slots = 0) (hc : cells + rm.cells ≤ R.cells) (hs : slots + rm.slots ≤ R.slots)
    {st' : List Value} (hst' : V.toList ++ rest = st')
    (k : ∀ T', Stand p l e R s m args below meth c T' locs cells slots → T'.heap = h → own_Go p e below Q T' (mkF m pc' Ls st')) : own_Go p e below Q T (mkF m pc Ls st) := by
  subst hst'
  refine o_callS X hx hZ eT hown w1 w2 w3 w4 hy hM hf hl hml hpd hlen hst has hW hd hp hc hs fun v T' L X' hK => ?_
  obtain ⟨rfl, e', rfl⟩ := hK
  rw [hc0, hs0, List.append_nil] at X'
  exact k T' X' e'
theorem own_snoc {a : Addr} {L : List Loc} {j : Nat} (N : ∀ y ∈ L, y.base = a) : ∀ y ∈ L ++ [⟨a, j⟩], y.base = a := fun y hy => (List.mem_append.mp hy).elim (N y) fun q => by cases List.mem_singleton.mp q; rfl
theorem own_nil (X : Stand p l e R s m args below meth c T (locs ++ []) cells slots) : Stand p l e R s m args below meth c T locs cells slots := by rw [List.append_nil] at X; exact X
/-- a body that writes into the array a alone -/
def own_KW (Z : State) (a : Addr) (ty : FieldType) (vs : List Int32) (h0 : Heap) : Option Value → Heap → List Loc → Prop := fun v h L => v = none ∧ (∀ y ∈ L, y.base = a) ∧ Keep h0 h [a] ∧ own_AI Z h a ty vs
def own_KWJ (Z : State) (a : Addr) (vs : List Int64) (h0 : Heap) : Option Value → Heap → List Loc → Prop := fun v h L => v = none ∧ (∀ y ∈ L, y.base = a) ∧ Keep h0 h [a] ∧ own_AJ Z h a vs
/-- a body that makes an array and hands it back -/
def own_KM (Z : State) (ty : FieldType) (vs : List Int32) (h0 : Heap) : Option Value → Heap → List Loc → Prop := fun v h L => ∃ b, v = some (.ref b) ∧ L = [] ∧ Keep h0 h [] ∧ h0.size ≤ b ∧ own_AI Z h b ty vs
/-- a store over a local that held nothing or one word -/
theorem o_istoreNS (X : Stand p l e R s m args below meth c T locs cells slots) (hx : p.tables.exec = Jvm.exec) {k : Fin 4} {o : Slot} (hd : decode c.code pc = .ok (.istore_n k, 1)) (hold : Ls[k.val]? = some o) (ho : One o) (hl : Ls.setIfInBounds k.val (.val (.int x)) = l') (hp : pc + 1 = pc') (q : own_Go p e below Q T (mkF m pc' l' rest)) : own_Go p e below Q T (mkF m pc Ls (.int x :: rest)) := by
  subst hp hl; exact own_go (fun t k' => XS.istoreNS X.here hx rfl hd rfl hold ho k') q
theorem o_istoreS (X : Stand p l e R s m args below meth c T locs cells slots) (hx : p.tables.exec = Jvm.exec) {k : Nat} {o : Slot} (hd : decode c.code pc = .ok (.istore k, 2)) (hold : Ls[k]? = some o) (ho : One o) (hl : Ls.setIfInBounds k (.val (.int x)) = l') (hp : pc + 2 = pc') (q : own_Go p e below Q T (mkF m pc' l' rest)) : own_Go p e below Q T (mkF m pc Ls (.int x :: rest)) := by
  subst hp hl; exact own_go (fun t k' => XS.istoreS X.here hx rfl hd rfl hold ho k') q
theorem o_astoreS (X : Stand p l e R s m args below meth c T locs cells slots) (hx : p.tables.exec = Jvm.exec) {k : Nat} {o : Slot} {v : Value} (hd : decode c.code pc = .ok (.astore k, 2)) (hv : v.isRef = true) (hcat : v.category = 1) (hold : Ls[k]? = some o) (ho : One o) (hl : Ls.setIfInBounds k (.val v) = l') (hp : pc + 2 = pc') (q : own_Go p e below Q T (mkF m pc' l' rest)) : own_Go p e below Q T (mkF m pc Ls (v :: rest)) := by
  subst hp hl; exact own_go (fun t k' => XS.astoreS X.here hx rfl hd rfl hv hcat hold ho k') q
end OwnKit
/-! own facts on numbers (with kit/NumsL) -/
theorem own_tmod (x y : Int32) : (own_rem x y).toInt = x.toInt.tmod y.toInt := by
  have a := (x % y).toInt_lt; have b := (x % y).le_toInt
  rw [Int32.toInt_mod] at a b
  show (x - (x / y) * y).toInt = _
  rw [Int32.toInt_sub, Int32.toInt_mul, Int32.toInt_div, Int.bmod_mul_bmod, Int.sub_bmod_bmod, Int.mul_comm, ← Int.tmod_def]
  exact Jvm.Kit.bmod32 b a
theorem own_emod {x y : Int32} (hx : 0 ≤ x.toInt) : (own_rem x y).toInt = x.toInt % y.toInt := by rw [own_tmod, Int.tmod_eq_emod_of_nonneg hx]
theorem own_lemod {u w : Int64} (hx : 0 ≤ u.toInt) : (own_lrem u w).toInt = u.toInt % w.toInt := Jvm.Kit.i64_rem_nonneg hx
theorem own_max (x : Int32) : (x &&& 2147483647).toInt = x.toInt % 2 ^ 31 := Jvm.Kit.i32_mask x 2147483647 (by decide) (by decide)
/-- x >>> k, k a number from 1 to 31, as a division of the number without sign -/
theorem own_ushr_toNat (x y : Int32) {k : Nat} (hk : (y &&& 31).toUInt32.toNat = k) (h1 : k < 32) : (own_ushr x y).toBitVec.toNat = x.toBitVec.toNat / 2 ^ k := by
  show ((x.toUInt32 >>> (y &&& 31).toUInt32).toInt32).toBitVec.toNat = _
  rw [UInt32.toBitVec_toInt32, UInt32.toBitVec_shiftRight]
  have e : ((y &&& 31).toUInt32.toBitVec % 32).toNat = k := by
    have e0 : (y &&& 31).toUInt32.toBitVec.toNat = k := hk
    rw [BitVec.toNat_umod, e0]
    exact Nat.mod_eq_of_lt h1
  show (x.toBitVec >>> ((y &&& 31).toUInt32.toBitVec % 32).toNat).toNat = _
  rw [e, BitVec.toNat_ushiftRight, Nat.shiftRight_eq_div_pow]
theorem own_ushr_toInt (x y : Int32) {k : Nat} (hk : (y &&& 31).toUInt32.toNat = k) (h0 : 0 < k) (h1 : k < 32) : (own_ushr x y).toInt = (x.toBitVec.toNat / 2 ^ k : Nat) := by
  have h := own_ushr_toNat x y hk h1
  have hb := x.toBitVec.isLt
  have h2 : x.toBitVec.toNat / 2 ^ k ≤ x.toBitVec.toNat / 2 ^ 1 := Nat.div_le_div_left (Nat.pow_le_pow_right (by decide) h0) (by decide)
  have e : (own_ushr x y).toInt = (own_ushr x y).toBitVec.toInt := rfl
  rw [e, BitVec.toInt_eq_toNat_cond, h, if_pos (by omega)]
theorem own_in_of {n : Nat} {j : Int32} (h0 : 0 ≤ j.toInt) (h1 : j.toInt < n) : own_in n j := by
  refine ⟨fun q => ?_, ?_⟩
  · rw [Int32.lt_iff_toInt_lt] at q
    have : (0 : Int32).toInt = 0 := rfl
    omega
  · rw [Int32.toNatClampNeg]; omega
theorem own_lt {x y : Int32} : x < y ↔ x.toInt < y.toInt := Int32.lt_iff_toInt_lt
theorem own_eq {x y : Int32} : x = y ↔ x.toInt = y.toInt := Int32.toInt_inj.symm
theorem own_ltL {x y : Int64} : x < y ↔ x.toInt < y.toInt := Int64.lt_iff_toInt_lt
theorem own_eqL {x y : Int64} : x = y ↔ x.toInt = y.toInt := Int64.toInt_inj.symm
theorem own_nat_toInt {k : Nat} (h : k < 2 ^ 31) : (Int32.ofNat k).toInt = k := Int32.toInt_ofNat_of_lt (by omega)
theorem own_nat_lt {i n : Nat} (hi : i < 2 ^ 31) (hn : n < 2 ^ 31) : Int32.ofNat i < Int32.ofNat n ↔ i < n := by
  rw [own_lt, own_nat_toInt hi, own_nat_toInt hn]; omega
theorem own_nat_one (i : Nat) : Int32.ofNat i + (1 : Int32) = Int32.ofNat (i + 1) := (Int32.ofNat_add i 1).symm
theorem own_nat_clamp {k : Nat} (h : k < 2 ^ 31) : (Int32.ofNat k).toNatClampNeg = k := by
  rw [Int32.toNatClampNeg, own_nat_toInt h]; rfl
theorem own_nat_get (v : List Int32) {k : Nat} (h : k < 2 ^ 31) : own_get v (Int32.ofNat k) = v.getD k 0 := by rw [own_get, own_nat_clamp h]
theorem own_nat_in {n k : Nat} (h : k < n) (hk : k < 2 ^ 31) : own_in n (Int32.ofNat k) := own_in_of (by rw [own_nat_toInt hk]; omega) (by rw [own_nat_toInt hk]; omega)
theorem own_nat_of {x : Int32} (h : 0 ≤ x.toInt) : ∃ k : Nat, x = Int32.ofNat k ∧ (k : Int) = x.toInt ∧ k < 2 ^ 31 := by
  have u := x.toInt_lt
  refine ⟨x.toInt.toNat, ?_, by omega, by omega⟩
  rw [own_eq, own_nat_toInt (by omega)]; omega
theorem own_nat_sub {a b : Nat} (ha : a < 2 ^ 31) (h : b ≤ a) : Int32.ofNat a - Int32.ofNat b = Int32.ofNat (a - b) := by
  have e1 := own_nat_toInt ha
  have e2 := own_nat_toInt (k := b) (by omega)
  have e3 := own_nat_toInt (k := a - b) (by omega)
  rw [own_eq, Jvm.Kit.i32_sub (by omega) (by omega)]
  omega
theorem own_i2b2 (x : Int32) : own_i2b (own_i2b x) = own_i2b x := by
  show (x.toInt8.toInt32).toInt8.toInt32 = x.toInt8.toInt32
  rw [Int8.toInt8_toInt32]
/-- a hash: 31 * h + the next, count times from place i on -/
def own_h (v : List Int32) : Int32 → Nat → Nat → Int32
  | h, _, 0 => h
  | h, i, c + 1 => own_h v (31 * h + v.getD i 0) (i + 1) c
def own_p : Nat → Int32
  | 0 => 1
  | n + 1 => 31 * own_p n
def own_sum (v : List Int32) : Nat → Nat → Int32
  | _, 0 => 0
  | i, c + 1 => v.getD i 0 * own_p c + own_sum v (i + 1) c
theorem own_h_eq (v : List Int32) : ∀ (c : Nat) (h : Int32) (i : Nat), own_h v h i c = h * own_p c + own_sum v i c := by
  intro c
  induction c with
  | zero => intro h i; simp only [own_h, own_p, own_sum, Int32.mul_one, Int32.add_zero]
  | succ c ih =>
    intro h i
    rw [own_h, ih, own_p, own_sum, Int32.add_mul, Int32.mul_comm 31 h, Int32.mul_assoc, Int32.add_assoc]
theorem own_toNat (x : Int32) : (x.toBitVec.toNat : Int) = x.toInt % 2 ^ 32 := by
  have e : x.toInt = x.toBitVec.toInt := rfl
  have h := x.toBitVec.isLt
  rw [e, BitVec.toInt_eq_toNat_cond]
  split <;> omega
theorem pd_0 : parseMethodDescriptor "(I)[B" = some ⟨[.int], some (.array .byte)⟩ := by decide +kernel
theorem pd_1 : parseMethodDescriptor "([B)I" = some ⟨[(.array .byte)], some .int⟩ := by decide +kernel
theorem pd_2 : parseMethodDescriptor "(JII)B" = some ⟨[.long, .int, .int], some .byte⟩ := by decide +kernel
theorem d1_0 : decode method_2_code 0 = .ok (.iload_n 0, 1) := by decide +kernel
theorem d1_1 : decode method_2_code 1 = .ok (.ifCond .ne 7, 3) := by decide +kernel
theorem d1_4 : decode method_2_code 4 = .ok (.iconst 0, 1) := by decide +kernel
theorem d1_5 : decode method_2_code 5 = .ok (.newarray .byte, 2) := by decide +kernel
theorem d1_7 : decode method_2_code 7 = .ok (.areturn, 1) := by decide +kernel
theorem d1_8 : decode method_2_code 8 = .ok (.iload_n 0, 1) := by decide +kernel
theorem d1_9 : decode method_2_code 9 = .ok (.iconst 1, 1) := by decide +kernel
theorem d1_10 : decode method_2_code 10 = .ok (.if_icmp .ne 7, 3) := by decide +kernel
theorem d1_13 : decode method_2_code 13 = .ok (.iconst 1, 1) := by decide +kernel
theorem d1_14 : decode method_2_code 14 = .ok (.newarray .byte, 2) := by decide +kernel
theorem d1_16 : decode method_2_code 16 = .ok (.areturn, 1) := by decide +kernel
theorem d1_17 : decode method_2_code 17 = .ok (.iload_n 0, 1) := by decide +kernel
theorem d1_18 : decode method_2_code 18 = .ok (.iconst 2, 1) := by decide +kernel
theorem d1_19 : decode method_2_code 19 = .ok (.if_icmp .ne 7, 3) := by decide +kernel
theorem d1_22 : decode method_2_code 22 = .ok (.iconst 2, 1) := by decide +kernel
theorem d1_23 : decode method_2_code 23 = .ok (.newarray .byte, 2) := by decide +kernel
theorem d1_25 : decode method_2_code 25 = .ok (.areturn, 1) := by decide +kernel
theorem d1_26 : decode method_2_code 26 = .ok (.iload_n 0, 1) := by decide +kernel
theorem d1_27 : decode method_2_code 27 = .ok (.iconst 3, 1) := by decide +kernel
theorem d1_28 : decode method_2_code 28 = .ok (.if_icmp .ne 7, 3) := by decide +kernel
theorem d1_31 : decode method_2_code 31 = .ok (.iconst 3, 1) := by decide +kernel
theorem d1_32 : decode method_2_code 32 = .ok (.newarray .byte, 2) := by decide +kernel
theorem d1_34 : decode method_2_code 34 = .ok (.areturn, 1) := by decide +kernel
theorem d1_35 : decode method_2_code 35 = .ok (.iload_n 0, 1) := by decide +kernel
theorem d1_36 : decode method_2_code 36 = .ok (.iconst 4, 1) := by decide +kernel
theorem d1_37 : decode method_2_code 37 = .ok (.if_icmp .ne 7, 3) := by decide +kernel
theorem d1_40 : decode method_2_code 40 = .ok (.iconst 4, 1) := by decide +kernel
theorem d1_41 : decode method_2_code 41 = .ok (.newarray .byte, 2) := by decide +kernel
theorem d1_43 : decode method_2_code 43 = .ok (.areturn, 1) := by decide +kernel
theorem d1_44 : decode method_2_code 44 = .ok (.iload_n 0, 1) := by decide +kernel
theorem d1_45 : decode method_2_code 45 = .ok (.iconst 5, 1) := by decide +kernel
theorem d1_46 : decode method_2_code 46 = .ok (.if_icmp .ne 7, 3) := by decide +kernel
theorem d1_49 : decode method_2_code 49 = .ok (.iconst 5, 1) := by decide +kernel
theorem d1_50 : decode method_2_code 50 = .ok (.newarray .byte, 2) := by decide +kernel
theorem d1_52 : decode method_2_code 52 = .ok (.areturn, 1) := by decide +kernel
theorem d1_53 : decode method_2_code 53 = .ok (.bipush 6, 2) := by decide +kernel
theorem d1_55 : decode method_2_code 55 = .ok (.newarray .byte, 2) := by decide +kernel
theorem d1_57 : decode method_2_code 57 = .ok (.areturn, 1) := by decide +kernel
section Body1
variable {p : Program} {l : Launch} {e : Env} {s : State} {m : MethodId} {args : Array Value} {below : List Frame} {meth : Method} {c : Code} {Z : State} {ag : Array Value} {K : Option Value → Heap → List Loc → Prop}
abbrev R1 : Room := { frames := 0, cells := 1, slots := 6, locals := 0 }
abbrev cc1 : Nat := 1
abbrev ss1 : Nat := 6
def f1_0 (p0 : Int32) : List Int32 := (if p0 = (0 : Int32) then ([] : List Int32) else (if p0 = (1 : Int32) then [(0 : Int32)] else (if p0 = (2 : Int32) then [(0 : Int32), (0 : Int32)] else (if p0 = (3 : Int32) then [(0 : Int32), (0 : Int32), (0 : Int32)] else (if p0 = (4 : Int32) then [(0 : Int32), (0 : Int32), (0 : Int32), (0 : Int32)] else (if p0 = (5 : Int32) then [(0 : Int32), (0 : Int32), (0 : Int32), (0 : Int32), (0 : Int32)] else [(0 : Int32), (0 : Int32), (0 : Int32), (0 : Int32), (0 : Int32), (0 : Int32)]))))))
set_option maxRecDepth 65536 in
set_option maxHeartbeats 40000000 in
theorem b1_0 (C : own_Cx p s m meth c Z ag method_2_code 1 "com/example/plumbline/plumbline/core/BignumsSignificantLengthPinLaw" (some (.array .byte)) "make") {T : State} {h : Heap} {h0 : Heap} (p0 : Int32) (X : Stand p l e R1 s m args below meth c T [] 0 0) (eT : T.heap = h) (hs0 : s.heap = h0) (hKp : Keep h0 h []) (hK : ∀ h' b, Keep h0 h' [] → h0.size ≤ b → own_AI Z h' b .byte (f1_0 p0) → K (some (.ref b)) h' []) : own_Go p e below (own_Q s K cc1 ss1) T (mkF m 0 #[.val (.int p0)] []) := by
  obtain ⟨hx, hZ, hw, hby, hml, hown, hret, hlk, hnm⟩ := id C
  unfold f1_0 at hK
  refine o_iloadN (pc' := 1) X hx (hb hby d1_0) rfl rfl ?_
  refine o_ifN (P := p0 = (0 : Int32)) (pc1 := 8) (pc2 := 4) X hx XT.i0_ne_f XT.i0_ne_t (hb hby d1_1) (by decide) (by decide) rfl (fun c1 => ?_) (fun c1 => ?_)
  · rw [if_neg c1] at hK
    refine o_iloadN (pc' := 9) X hx (hb hby d1_8) rfl rfl ?_
    refine o_iconst (pc' := 10) (x := (1 : Int32)) X hx (hb hby d1_9) (by decide) rfl ?_
    refine o_icN (P := p0 = (1 : Int32)) (pc1 := 17) (pc2 := 13) X hx XT.ii_ne_f XT.ii_ne_t (hb hby d1_10) (by decide) (by decide) rfl (fun c2 => ?_) (fun c2 => ?_)
    · rw [if_neg c2] at hK
      refine o_iloadN (pc' := 18) X hx (hb hby d1_17) rfl rfl ?_
      refine o_iconst (pc' := 19) (x := (2 : Int32)) X hx (hb hby d1_18) (by decide) rfl ?_
      refine o_icN (P := p0 = (2 : Int32)) (pc1 := 26) (pc2 := 22) X hx XT.ii_ne_f XT.ii_ne_t (hb hby d1_19) (by decide) (by decide) rfl (fun c3 => ?_) (fun c3 => ?_)
      · rw [if_neg c3] at hK
        refine o_iloadN (pc' := 27) X hx (hb hby d1_26) rfl rfl ?_
        refine o_iconst (pc' := 28) (x := (3 : Int32)) X hx (hb hby d1_27) (by decide) rfl ?_
        refine o_icN (P := p0 = (3 : Int32)) (pc1 := 35) (pc2 := 31) X hx XT.ii_ne_f XT.ii_ne_t (hb hby d1_28) (by decide) (by decide) rfl (fun c4 => ?_) (fun c4 => ?_)
        · rw [if_neg c4] at hK
          refine o_iloadN (pc' := 36) X hx (hb hby d1_35) rfl rfl ?_
          refine o_iconst (pc' := 37) (x := (4 : Int32)) X hx (hb hby d1_36) (by decide) rfl ?_
          refine o_icN (P := p0 = (4 : Int32)) (pc1 := 44) (pc2 := 40) X hx XT.ii_ne_f XT.ii_ne_t (hb hby d1_37) (by decide) (by decide) rfl (fun c5 => ?_) (fun c5 => ?_)
          · rw [if_neg c5] at hK
            refine o_iloadN (pc' := 45) X hx (hb hby d1_44) rfl rfl ?_
            refine o_iconst (pc' := 46) (x := (5 : Int32)) X hx (hb hby d1_45) (by decide) rfl ?_
            refine o_icN (P := p0 = (5 : Int32)) (pc1 := 53) (pc2 := 49) X hx XT.ii_ne_f XT.ii_ne_t (hb hby d1_46) (by decide) (by decide) rfl (fun c6 => ?_) (fun c6 => ?_)
            · rw [if_neg c6] at hK
              refine o_bipush (pc' := 55) (x := (6 : Int32)) X hx (hb hby d1_53) (by decide) rfl ?_
              refine o_newI (pc' := 57) (cap := 6) (vs := [(0 : Int32), (0 : Int32), (0 : Int32), (0 : Int32), (0 : Int32), (0 : Int32)]) X hx hZ eT (hw _ (List.mem_of_getElem? (i := 5) rfl)) rfl rfl (hb hby d1_55) rfl (by decide) (by decide) (by decide) (by decide) (by decide) rfl fun T7 h7 b7 X7 e7 q7 E7 A7 => ?_
              have g7 : s.heap.size ≤ b7 := q7 ▸ own_sz X eT
              have P7 := hKp.ext E7
              exact o_retA X7 hx hret hlk (hb hby d1_57) (by decide) (by decide) e7 (hK _ _ P7 (by rw [← hs0]; exact g7) A7)
            · rw [if_pos c6] at hK
              refine o_iconst (pc' := 50) (x := (5 : Int32)) X hx (hb hby d1_49) (by decide) rfl ?_
              refine o_newI (pc' := 52) (cap := 5) (vs := [(0 : Int32), (0 : Int32), (0 : Int32), (0 : Int32), (0 : Int32)]) X hx hZ eT (hw _ (List.mem_of_getElem? (i := 5) rfl)) rfl rfl (hb hby d1_50) rfl (by decide) (by decide) (by decide) (by decide) (by decide) rfl fun T8 h8 b8 X8 e8 q8 E8 A8 => ?_
              have g8 : s.heap.size ≤ b8 := q8 ▸ own_sz X eT
              have P8 := hKp.ext E8
              exact o_retA X8 hx hret hlk (hb hby d1_52) (by decide) (by decide) e8 (hK _ _ P8 (by rw [← hs0]; exact g8) A8)
          · rw [if_pos c5] at hK
            refine o_iconst (pc' := 41) (x := (4 : Int32)) X hx (hb hby d1_40) (by decide) rfl ?_
            refine o_newI (pc' := 43) (cap := 4) (vs := [(0 : Int32), (0 : Int32), (0 : Int32), (0 : Int32)]) X hx hZ eT (hw _ (List.mem_of_getElem? (i := 5) rfl)) rfl rfl (hb hby d1_41) rfl (by decide) (by decide) (by decide) (by decide) (by decide) rfl fun T9 h9 b9 X9 e9 q9 E9 A9 => ?_
            have g9 : s.heap.size ≤ b9 := q9 ▸ own_sz X eT
            have P9 := hKp.ext E9
            exact o_retA X9 hx hret hlk (hb hby d1_43) (by decide) (by decide) e9 (hK _ _ P9 (by rw [← hs0]; exact g9) A9)
        · rw [if_pos c4] at hK
          refine o_iconst (pc' := 32) (x := (3 : Int32)) X hx (hb hby d1_31) (by decide) rfl ?_
          refine o_newI (pc' := 34) (cap := 3) (vs := [(0 : Int32), (0 : Int32), (0 : Int32)]) X hx hZ eT (hw _ (List.mem_of_getElem? (i := 5) rfl)) rfl rfl (hb hby d1_32) rfl (by decide) (by decide) (by decide) (by decide) (by decide) rfl fun T10 h10 b10 X10 e10 q10 E10 A10 => ?_
          have g10 : s.heap.size ≤ b10 := q10 ▸ own_sz X eT
          have P10 := hKp.ext E10
          exact o_retA X10 hx hret hlk (hb hby d1_34) (by decide) (by decide) e10 (hK _ _ P10 (by rw [← hs0]; exact g10) A10)
      · rw [if_pos c3] at hK
        refine o_iconst (pc' := 23) (x := (2 : Int32)) X hx (hb hby d1_22) (by decide) rfl ?_
        refine o_newI (pc' := 25) (cap := 2) (vs := [(0 : Int32), (0 : Int32)]) X hx hZ eT (hw _ (List.mem_of_getElem? (i := 5) rfl)) rfl rfl (hb hby d1_23) rfl (by decide) (by decide) (by decide) (by decide) (by decide) rfl fun T11 h11 b11 X11 e11 q11 E11 A11 => ?_
        have g11 : s.heap.size ≤ b11 := q11 ▸ own_sz X eT
        have P11 := hKp.ext E11
        exact o_retA X11 hx hret hlk (hb hby d1_25) (by decide) (by decide) e11 (hK _ _ P11 (by rw [← hs0]; exact g11) A11)
    · rw [if_pos c2] at hK
      refine o_iconst (pc' := 14) (x := (1 : Int32)) X hx (hb hby d1_13) (by decide) rfl ?_
      refine o_newI (pc' := 16) (cap := 1) (vs := [(0 : Int32)]) X hx hZ eT (hw _ (List.mem_of_getElem? (i := 5) rfl)) rfl rfl (hb hby d1_14) rfl (by decide) (by decide) (by decide) (by decide) (by decide) rfl fun T12 h12 b12 X12 e12 q12 E12 A12 => ?_
      have g12 : s.heap.size ≤ b12 := q12 ▸ own_sz X eT
      have P12 := hKp.ext E12
      exact o_retA X12 hx hret hlk (hb hby d1_16) (by decide) (by decide) e12 (hK _ _ P12 (by rw [← hs0]; exact g12) A12)
  · rw [if_pos c1] at hK
    refine o_iconst (pc' := 5) (x := (0 : Int32)) X hx (hb hby d1_4) (by decide) rfl ?_
    refine o_newI (pc' := 7) (cap := 0) (vs := ([] : List Int32)) X hx hZ eT (hw _ (List.mem_of_getElem? (i := 5) rfl)) rfl rfl (hb hby d1_5) rfl (by decide) (by decide) (by decide) (by decide) (by decide) rfl fun T13 h13 b13 X13 e13 q13 E13 A13 => ?_
    have g13 : s.heap.size ≤ b13 := q13 ▸ own_sz X eT
    have P13 := hKp.ext E13
    exact o_retA X13 hx hret hlk (hb hby d1_7) (by decide) (by decide) e13 (hK _ _ P13 (by rw [← hs0]; exact g13) A13)

end Body1
theorem pn_BignumsSignificantLengthPinLaw : plainName "com/example/plumbline/plumbline/core/BignumsSignificantLengthPinLaw" = true := by first | (simp [plainName, overriddenIn]; done) | decide +kernel
theorem ef_1 (m : MethodId) (p0 : Int32) : entryFrame m #[(.int p0)] 1 = mkF m 0 #[.val (.int p0)] [] := by first | (simp [entryFrame, mkF, argsToLocals, Value.category]; done) | rfl
set_option maxRecDepth 65536 in
set_option maxHeartbeats 40000000 in
theorem rm1 (l : Launch) (Z : State) (ag : Array Value) (hw : ∀ d ∈ tables_1, d.before ag Z = true) (ws : List Jvm.Cond) (p0 : Int32) (h0 : Heap) :
    MetFree l (⟨"com/example/plumbline/plumbline/core/BignumsSignificantLengthPinLaw", "make", "(I)[B"⟩ : MethodName) (head1 (Jvm.Cond.code (⟨"com/example/plumbline/plumbline/core/BignumsSignificantLengthPinLaw", "make", "(I)[B"⟩ : MethodName) method_2_code 1 (some (.array .byte)) :: ws) R1) (fun a U => a = #[(.int p0)] ∧ Z.Warmed39 U.vm ∧ U.heap = h0) (fun _ _ _ _ _ => True) (fun _ U o U' => ∃ v L, o = .returned v ∧ own_KM Z .byte (f1_0 p0) h0 v U'.heap L ∧ FrameEnd U o U' L R1.cells R1.slots) := by
  refine MetFree.of_bodySF (plainFor_of_name pn_BignumsSignificantLengthPinLaw) hisR ?_
  intro p e s m args below meth c s₁ Bd hml0 hP hK
  obtain ⟨rfl, hZ, hh⟩ := hP
  have C : own_Cx p s m meth c Z ag method_2_code 1 "com/example/plumbline/plumbline/core/BignumsSignificantLengthPinLaw" (some (.array .byte)) "make" := ⟨Bd.exec, hZ, hw, Bd.bytes, hml0, findClass_of_methodNamed Bd.named, Bd.returns, Bd.notSynchronized, (name_of_methodNamed Bd.named Bd.method).1⟩
  have X0 : Stand p l e R1 s m #[(.int p0)] below meth c s₁ [] 0 0 := Stand.of_body Bd
  have e0 : s₁.heap = h0 := by rw [← hh, Bd.state]; rfl
  rw [ef_1]
  exact b1_0 (K := own_KM Z .byte (f1_0 p0) h0) C p0 X0 e0 hh (Keep.refl _ _) (fun h' b q1 q2 q3 => ⟨b, rfl, rfl, q1, q2, q3⟩)

theorem d3_0 : decode method_3_code 0 = .ok (.iload_n 2, 1) := by decide +kernel
theorem d3_1 : decode method_3_code 1 = .ok (.iload_n 3, 1) := by decide +kernel
theorem d3_2 : decode method_3_code 2 = .ok (.iushr, 1) := by decide +kernel
theorem d3_3 : decode method_3_code 3 = .ok (.iconst 1, 1) := by decide +kernel
theorem d3_4 : decode method_3_code 4 = .ok (.iand, 1) := by decide +kernel
theorem d3_5 : decode method_3_code 5 = .ok (.ifCond .eq 5, 3) := by decide +kernel
theorem d3_8 : decode method_3_code 8 = .ok (.iconst 0, 1) := by decide +kernel
theorem d3_9 : decode method_3_code 9 = .ok (.ireturn, 1) := by decide +kernel
theorem d3_10 : decode method_3_code 10 = .ok (.lload_n 0, 1) := by decide +kernel
theorem d3_11 : decode method_3_code 11 = .ok (.bipush 8, 2) := by decide +kernel
theorem d3_13 : decode method_3_code 13 = .ok (.iload_n 3, 1) := by decide +kernel
theorem d3_14 : decode method_3_code 14 = .ok (.imul, 1) := by decide +kernel
theorem d3_15 : decode method_3_code 15 = .ok (.lushr, 1) := by decide +kernel
theorem d3_16 : decode method_3_code 16 = .ok (.l2i, 1) := by decide +kernel
theorem d3_17 : decode method_3_code 17 = .ok (.i2b, 1) := by decide +kernel
theorem d3_18 : decode method_3_code 18 = .ok (.ireturn, 1) := by decide +kernel
section Body3
variable {p : Program} {l : Launch} {e : Env} {s : State} {m : MethodId} {args : Array Value} {below : List Frame} {meth : Method} {c : Code} {Z : State} {ag : Array Value} {K : Option Value → Heap → List Loc → Prop}
abbrev R3 : Room := { frames := 0, cells := 0, slots := 0, locals := 0 }
abbrev cc3 : Nat := 0
abbrev ss3 : Nat := 0
def f3_0 (q0 : Int64) (p1 : Int32) (p2 : Int32) : Int32 := (if ((own_ushr p1 p2) &&& (1 : Int32)) = (0 : Int32) then (own_i2b (own_i2b ((own_lushr q0 ((8 : Int32) * p2)).toInt32))) else (0 : Int32))
set_option maxRecDepth 65536 in
set_option maxHeartbeats 40000000 in
theorem b3_0 (C : own_Cx p s m meth c Z ag method_3_code 4 "com/example/plumbline/plumbline/core/BignumsSignificantLengthPinLaw" (some .byte) "pick") {T : State} {h : Heap} (q0 : Int64) (p1 : Int32) (p2 : Int32) (X : Stand p l e R3 s m args below meth c T [] 0 0) (eT : T.heap = h) (hK : K (some (.int (f3_0 q0 p1 p2))) h []) : own_Go p e below (own_Q s K cc3 ss3) T (mkF m 0 #[.val (.long q0), .second, .val (.int p1), .val (.int p2)] []) := by
  obtain ⟨hx, hZ, hw, hby, hml, hown, hret, hlk, hnm⟩ := id C
  unfold f3_0 at hK
  refine o_iloadN (pc' := 1) X hx (hb hby d3_0) rfl rfl ?_
  refine o_iloadN (pc' := 2) X hx (hb hby d3_1) rfl rfl ?_
  refine o_iushr (pc' := 3)  X hx (hb hby d3_2) rfl rfl ?_
  refine o_iconst (pc' := 4) (x := (1 : Int32)) X hx (hb hby d3_3) (by decide) rfl ?_
  refine o_iand (pc' := 5)  X hx (hb hby d3_4) rfl rfl ?_
  refine o_ifP (P := ((own_ushr p1 p2) &&& (1 : Int32)) = (0 : Int32)) (pc1 := 10) (pc2 := 8) X hx XT.i0_eq_t XT.i0_eq_f (hb hby d3_5) (by decide) (by decide) rfl (fun c14 => ?_) (fun c14 => ?_)
  · rw [if_pos c14] at hK
    refine o_lloadN (pc' := 11) X hx (hb hby d3_10) rfl rfl ?_
    refine o_bipush (pc' := 13) (x := (8 : Int32)) X hx (hb hby d3_11) (by decide) rfl ?_
    refine o_iloadN (pc' := 14) X hx (hb hby d3_13) rfl rfl ?_
    refine o_imul (pc' := 15)  X hx (hb hby d3_14) rfl rfl ?_
    refine o_lushr (pc' := 16)  X hx (hb hby d3_15) rfl rfl ?_
    refine o_l2i (pc' := 17)  X hx (hb hby d3_16) rfl rfl ?_
    refine o_i2b (pc' := 18)  X hx (hb hby d3_17) rfl rfl ?_
    exact o_retN X hx (t := .byte) hret (by simp) hlk (hb hby d3_18) (by decide) (by decide) eT (hK)
  · rw [if_neg c14] at hK
    refine o_iconst (pc' := 9) (x := (0 : Int32)) X hx (hb hby d3_8) (by decide) rfl ?_
    exact o_retN X hx (t := .byte) hret (by simp) hlk (hb hby d3_9) (by decide) (by decide) eT (hK)

end Body3
theorem ef_3 (m : MethodId) (q0 : Int64) (p1 : Int32) (p2 : Int32) : entryFrame m #[(.long q0), (.int p1), (.int p2)] 4 = mkF m 0 #[.val (.long q0), .second, .val (.int p1), .val (.int p2)] [] := by first | (simp [entryFrame, mkF, argsToLocals, Value.category]; done) | rfl
set_option maxRecDepth 65536 in
set_option maxHeartbeats 40000000 in
theorem rm3 (l : Launch) (Z : State) (ag : Array Value) (hw : ∀ d ∈ tables_1, d.before ag Z = true) (ws : List Jvm.Cond) (q0 : Int64) (p1 : Int32) (p2 : Int32) (h0 : Heap) :
    MetFree l (⟨"com/example/plumbline/plumbline/core/BignumsSignificantLengthPinLaw", "pick", "(JII)B"⟩ : MethodName) (head1 (Jvm.Cond.code (⟨"com/example/plumbline/plumbline/core/BignumsSignificantLengthPinLaw", "pick", "(JII)B"⟩ : MethodName) method_3_code 4 (some .byte) :: ws) R3) (fun a U => a = #[(.long q0), (.int p1), (.int p2)] ∧ Z.Warmed39 U.vm ∧ U.heap = h0) (fun _ _ _ _ _ => True) (fun _ U o U' => ∃ v L, o = .returned v ∧ own_KP (some (.int (f3_0 q0 p1 p2))) h0 v U'.heap L ∧ FrameEnd U o U' L R3.cells R3.slots) := by
  refine MetFree.of_bodySF (plainFor_of_name pn_BignumsSignificantLengthPinLaw) hisR ?_
  intro p e s m args below meth c s₁ Bd hml0 hP hK
  obtain ⟨rfl, hZ, hh⟩ := hP
  have C : own_Cx p s m meth c Z ag method_3_code 4 "com/example/plumbline/plumbline/core/BignumsSignificantLengthPinLaw" (some .byte) "pick" := ⟨Bd.exec, hZ, hw, Bd.bytes, hml0, findClass_of_methodNamed Bd.named, Bd.returns, Bd.notSynchronized, (name_of_methodNamed Bd.named Bd.method).1⟩
  have X0 : Stand p l e R3 s m #[(.long q0), (.int p1), (.int p2)] below meth c s₁ [] 0 0 := Stand.of_body Bd
  have e0 : s₁.heap = h0 := by rw [← hh, Bd.state]; rfl
  rw [ef_3]
  exact b3_0 (K := own_KP (some (.int (f3_0 q0 p1 p2))) h0) C q0 p1 p2 X0 e0 ⟨rfl, rfl, rfl⟩

theorem d2_0 : decode prog_22_method_5_code 0 = .ok (.iconst 0, 1) := by decide +kernel
theorem d2_1 : decode prog_22_method_5_code 1 = .ok (.istore_n 1, 1) := by decide +kernel
theorem d2_2 : decode prog_22_method_5_code 2 = .ok (.iload_n 1, 1) := by decide +kernel
theorem d2_3 : decode prog_22_method_5_code 3 = .ok (.aload_n 0, 1) := by decide +kernel
theorem d2_4 : decode prog_22_method_5_code 4 = .ok (.arraylength, 1) := by decide +kernel
theorem d2_5 : decode prog_22_method_5_code 5 = .ok (.if_icmp .ge 15, 3) := by decide +kernel
theorem d2_8 : decode prog_22_method_5_code 8 = .ok (.aload_n 0, 1) := by decide +kernel
theorem d2_9 : decode prog_22_method_5_code 9 = .ok (.iload_n 1, 1) := by decide +kernel
theorem d2_10 : decode prog_22_method_5_code 10 = .ok (.baload, 1) := by decide +kernel
theorem d2_11 : decode prog_22_method_5_code 11 = .ok (.ifCond .ne 9, 3) := by decide +kernel
theorem d2_14 : decode prog_22_method_5_code 14 = .ok (.iinc 1 1, 3) := by decide +kernel
theorem d2_17 : decode prog_22_method_5_code 17 = .ok (.goto (-15), 3) := by decide +kernel
theorem d2_20 : decode prog_22_method_5_code 20 = .ok (.aload_n 0, 1) := by decide +kernel
theorem d2_21 : decode prog_22_method_5_code 21 = .ok (.arraylength, 1) := by decide +kernel
theorem d2_22 : decode prog_22_method_5_code 22 = .ok (.iload_n 1, 1) := by decide +kernel
theorem d2_23 : decode prog_22_method_5_code 23 = .ok (.isub, 1) := by decide +kernel
theorem d2_24 : decode prog_22_method_5_code 24 = .ok (.ireturn, 1) := by decide +kernel
section Body2
variable {p : Program} {l : Launch} {e : Env} {s : State} {m : MethodId} {args : Array Value} {below : List Frame} {meth : Method} {c : Code} {Z : State} {ag : Array Value} {K : Option Value → Heap → List Loc → Prop}
abbrev R2 : Room := { frames := 0, cells := 0, slots := 0, locals := 0 }
abbrev cc2 : Nat := 0
abbrev ss2 : Nat := 0
def f2_20 (v0 : List Int32) (x1 : Int32) : Int32 := ((own_len v0.length) - x1)
set_option maxRecDepth 65536 in
set_option maxHeartbeats 40000000 in
theorem b2_20 (C : own_Cx p s m meth c Z ag prog_22_method_5_code 2 "com/example/plumbline/plumbline/core/Bignums" (some .int) "significantLength") {T : State} {h : Heap} (a0 : Addr) (v0 : List Int32) (x1 : Int32) (X : Stand p l e R2 s m args below meth c T [] 0 0) (eT : T.heap = h) (Aa0 : own_AI Z h a0 .byte v0) (hK : K (some (.int (f2_20 v0 x1))) h []) : own_Go p e below (own_Q s K cc2 ss2) T (mkF m 20 #[.val (.ref a0), .val (.int x1)] []) := by
  obtain ⟨hx, hZ, hw, hby, hml, hown, hret, hlk, hnm⟩ := id C
  unfold f2_20 at hK
  refine o_aloadN (pc' := 21) X hx (hb hby d2_20) rfl rfl rfl ?_
  refine o_alenI (pc' := 22)  X hx hZ eT Aa0 (hb hby d2_21) rfl rfl ?_
  refine o_iloadN (pc' := 23) X hx (hb hby d2_22) rfl rfl ?_
  refine o_isub (pc' := 24)  X hx (hb hby d2_23) rfl rfl ?_
  exact o_retI X hx hret hlk (hb hby d2_24) (by decide) (by decide) eT (hK)

def f2_2 : Nat → List Int32 → Int32 → Int32
  | 0, _, _ => 0
  | n + 1, v0, x1 => (if x1 < (own_len v0.length) then (if (own_get v0 x1) = (0 : Int32) then (f2_2 n v0 (x1 + (1 : Int32))) else (f2_20 v0 x1)) else (f2_20 v0 x1))
def s2_2 : Nat → List Int32 → Int32 → Prop
  | 0, _, _ => False
  | n + 1, v0, x1 => ((x1 < (own_len v0.length) → (own_in v0.length x1 ∧ (((own_get v0 x1) = (0 : Int32) → s2_2 n v0 (x1 + (1 : Int32))) ∧ (¬ ((own_get v0 x1) = (0 : Int32)) → True)))) ∧ (¬ (x1 < (own_len v0.length)) → True))
set_option maxRecDepth 65536 in
set_option maxHeartbeats 40000000 in
theorem b2_2 (C : own_Cx p s m meth c Z ag prog_22_method_5_code 2 "com/example/plumbline/plumbline/core/Bignums" (some .int) "significantLength") :
    ∀ (n : Nat) {T : State} {h : Heap} (a0 : Addr) (v0 : List Int32) (x1 : Int32) (X : Stand p l e R2 s m args below meth c T [] 0 0) (eT : T.heap = h) (Aa0 : own_AI Z h a0 .byte v0) (hs : s2_2 n v0 x1) (hK : K (some (.int (f2_2 n v0 x1))) h []), own_Go p e below (own_Q s K cc2 ss2) T (mkF m 2 #[.val (.ref a0), .val (.int x1)] []) := by
  intro n
  induction n with
  | zero => intros; rename_i hs _; exact hs.elim
  | succ n ih =>
    intro T h a0 v0 x1 X eT Aa0 hs hK
    obtain ⟨hx, hZ, hw, hby, hml, hown, hret, hlk, hnm⟩ := id C
    unfold f2_2 at hK
    unfold s2_2 at hs
    refine o_iloadN (pc' := 3) X hx (hb hby d2_2) rfl rfl ?_
    refine o_aloadN (pc' := 4) X hx (hb hby d2_3) rfl rfl rfl ?_
    refine o_alenI (pc' := 5)  X hx hZ eT Aa0 (hb hby d2_4) rfl rfl ?_
    refine o_icN (P := x1 < (own_len v0.length)) (pc1 := 20) (pc2 := 8) X hx XT.ii_ge_f XT.ii_ge_t (hb hby d2_5) (by decide) (by decide) rfl (fun c15 => ?_) (fun c15 => ?_)
    · rw [if_neg c15] at hK
      exact b2_20 C a0 v0 x1 X eT Aa0 hK
    · rw [if_pos c15] at hK
      refine o_aloadN (pc' := 9) X hx (hb hby d2_8) rfl rfl rfl ?_
      refine o_iloadN (pc' := 10) X hx (hb hby d2_9) rfl rfl ?_
      refine o_baload (pc' := 11)  X hx hZ eT Aa0 (hs.1 c15).1 (hb hby d2_10) rfl rfl ?_
      refine o_ifN (P := (own_get v0 x1) = (0 : Int32)) (pc1 := 20) (pc2 := 14) X hx XT.i0_ne_f XT.i0_ne_t (hb hby d2_11) (by decide) (by decide) rfl (fun c16 => ?_) (fun c16 => ?_)
      · rw [if_neg c16] at hK
        exact b2_20 C a0 v0 x1 X eT Aa0 hK
      · rw [if_pos c16] at hK
        refine o_iinc (pc' := 17) (y := (x1 + (1 : Int32))) (l' := #[.val (.ref a0), .val (.int (x1 + (1 : Int32)))]) X hx (hb hby d2_14) rfl rfl rfl rfl ?_
        refine o_goto (pc' := 2) X hx (hb hby d2_17) (by decide) (by decide) ?_
        exact ih a0 v0 (x1 + (1 : Int32)) X eT Aa0 ((hs.1 c15).2.1 c16) hK

def f2_0 (v0 : List Int32) : Int32 := (f2_2 64 v0 (0 : Int32))
def s2_0 (v0 : List Int32) : Prop := s2_2 64 v0 (0 : Int32)
set_option maxRecDepth 65536 in
set_option maxHeartbeats 40000000 in
theorem b2_0 (C : own_Cx p s m meth c Z ag prog_22_method_5_code 2 "com/example/plumbline/plumbline/core/Bignums" (some .int) "significantLength") {T : State} {h : Heap} (a0 : Addr) (v0 : List Int32) (X : Stand p l e R2 s m args below meth c T [] 0 0) (eT : T.heap = h) (Aa0 : own_AI Z h a0 .byte v0) (hs : s2_0 v0) (hK : K (some (.int (f2_0 v0))) h []) : own_Go p e below (own_Q s K cc2 ss2) T (mkF m 0 #[.val (.ref a0), .unset] []) := by
  obtain ⟨hx, hZ, hw, hby, hml, hown, hret, hlk, hnm⟩ := id C
  unfold f2_0 at hK
  unfold s2_0 at hs
  refine o_iconst (pc' := 1) (x := (0 : Int32)) X hx (hb hby d2_0) (by decide) rfl ?_
  refine o_istoreN (pc' := 2) (l' := #[.val (.ref a0), .val (.int (0 : Int32))]) X hx (hb hby d2_1) rfl rfl ?_
  exact b2_2 C 64 a0 v0 (0 : Int32) X eT Aa0 hs hK

end Body2
theorem pn_Bignums : plainName "com/example/plumbline/plumbline/core/Bignums" = true := by first | (simp [plainName, overriddenIn]; done) | decide +kernel
theorem ef_2 (m : MethodId) (a0 : Addr) : entryFrame m #[(.ref a0)] 2 = mkF m 0 #[.val (.ref a0), .unset] [] := by first | (simp [entryFrame, mkF, argsToLocals, Value.category]; done) | rfl
set_option maxRecDepth 65536 in
set_option maxHeartbeats 40000000 in
theorem rm2 (l : Launch) (Z : State) (ag : Array Value) (hw : ∀ d ∈ tables_1, d.before ag Z = true) (ws : List Jvm.Cond) (a0 : Addr) (v0 : List Int32) (h0 : Heap) (Aa0 : own_AI Z h0 a0 .byte v0) (hs : s2_0 v0) :
    MetFree l (⟨"com/example/plumbline/plumbline/core/Bignums", "significantLength", "([B)I"⟩ : MethodName) (head1 (Jvm.Cond.code (⟨"com/example/plumbline/plumbline/core/Bignums", "significantLength", "([B)I"⟩ : MethodName) prog_22_method_5_code 2 (some .int) :: ws) R2) (fun a U => a = #[(.ref a0)] ∧ Z.Warmed39 U.vm ∧ U.heap = h0) (fun _ _ _ _ _ => True) (fun _ U o U' => ∃ v L, o = .returned v ∧ own_KP (some (.int (f2_0 v0))) h0 v U'.heap L ∧ FrameEnd U o U' L R2.cells R2.slots) := by
  refine MetFree.of_bodySF (plainFor_of_name pn_Bignums) hisR ?_
  intro p e s m args below meth c s₁ Bd hml0 hP hK
  obtain ⟨rfl, hZ, hh⟩ := hP
  have C : own_Cx p s m meth c Z ag prog_22_method_5_code 2 "com/example/plumbline/plumbline/core/Bignums" (some .int) "significantLength" := ⟨Bd.exec, hZ, hw, Bd.bytes, hml0, findClass_of_methodNamed Bd.named, Bd.returns, Bd.notSynchronized, (name_of_methodNamed Bd.named Bd.method).1⟩
  have X0 : Stand p l e R2 s m #[(.ref a0)] below meth c s₁ [] 0 0 := Stand.of_body Bd
  have e0 : s₁.heap = h0 := by rw [← hh, Bd.state]; rfl
  rw [ef_2]
  exact b2_0 (K := own_KP (some (.int (f2_0 v0))) h0) C a0 v0 X0 e0 Aa0 hs ⟨rfl, rfl, rfl⟩

section Body0
variable {p : Program} {l : Launch} {e : Env} {s : State} {m : MethodId} {args : Array Value} {below : List Frame} {meth : Method} {c : Code} {Z : State} {ag : Array Value} {K : Option Value → Heap → List Loc → Prop}
abbrev R0 : Room := room_1
abbrev cc0 : Nat := 1
abbrev ss0 : Nat := 6
def f0_270 : Int32 := (0 : Int32)
set_option maxRecDepth 65536 in
set_option maxHeartbeats 40000000 in
theorem b0_270 (C : own_Cx p s m meth c Z ag code maxLocals "com/example/plumbline/plumbline/core/BignumsSignificantLengthPinLaw" ret "law") {T : State} {h : Heap} {z1 : Int64} {z0 : Slot} {z3 : Slot} {z4 : Slot} {z5 : Slot} {z6 : Slot} {z7 : Slot} (X : Stand p l e R0 s m args below meth c T [] 1 6) (eT : T.heap = h) (hz0 : One z0) (hz3 : One z3) (hz4 : One z4) (hz5 : One z5) (hz6 : One z6) (hz7 : One z7) (hK : ∀ h', K (some (.int (f0_270))) h' []) : own_Go p e below (own_Q s K cc0 ss0) T (mkF m 270 #[z0, .val (.long z1), .second, z3, z4, z5, z6, z7] [(.int (0 : Int32))]) := by
  obtain ⟨hx, hZ, hw, hby, hml, hown, hret, hlk, hnm⟩ := id C
  unfold f0_270 at hK
  exact o_retN X hx (t := .boolean) hret (by simp) hlk (hb hby at_270) (by decide) (by decide) eT (hK _)

def f0_269 : Int32 := f0_270
set_option maxRecDepth 65536 in
set_option maxHeartbeats 40000000 in
theorem b0_269 (C : own_Cx p s m meth c Z ag code maxLocals "com/example/plumbline/plumbline/core/BignumsSignificantLengthPinLaw" ret "law") {T : State} {h : Heap} {z1 : Int64} {z0 : Slot} {z3 : Slot} {z4 : Slot} {z5 : Slot} {z6 : Slot} {z7 : Slot} (X : Stand p l e R0 s m args below meth c T [] 1 6) (eT : T.heap = h) (hz0 : One z0) (hz3 : One z3) (hz4 : One z4) (hz5 : One z5) (hz6 : One z6) (hz7 : One z7) (hK : ∀ h', K (some (.int (f0_269))) h' []) : own_Go p e below (own_Q s K cc0 ss0) T (mkF m 269 #[z0, .val (.long z1), .second, z3, z4, z5, z6, z7] []) := by
  obtain ⟨hx, hZ, hw, hby, hml, hown, hret, hlk, hnm⟩ := id C
  unfold f0_269 at hK
  refine o_iconst (pc' := 270) (x := (0 : Int32)) X hx (hb hby at_269) (by decide) rfl ?_
  exact b0_270 C X eT hz0 hz3 hz4 hz5 hz6 hz7 hK

def f0_270_16 : Int32 := (1 : Int32)
set_option maxRecDepth 65536 in
set_option maxHeartbeats 40000000 in
theorem b0_270_16 (C : own_Cx p s m meth c Z ag code maxLocals "com/example/plumbline/plumbline/core/BignumsSignificantLengthPinLaw" ret "law") {T : State} {h : Heap} {z1 : Int64} {z0 : Slot} {z3 : Slot} {z4 : Slot} {z5 : Slot} {z6 : Slot} {z7 : Slot} (X : Stand p l e R0 s m args below meth c T [] 1 6) (eT : T.heap = h) (hz0 : One z0) (hz3 : One z3) (hz4 : One z4) (hz5 : One z5) (hz6 : One z6) (hz7 : One z7) (hK : ∀ h', K (some (.int (f0_270_16))) h' []) : own_Go p e below (own_Q s K cc0 ss0) T (mkF m 270 #[z0, .val (.long z1), .second, z3, z4, z5, z6, z7] [(.int (1 : Int32))]) := by
  obtain ⟨hx, hZ, hw, hby, hml, hown, hret, hlk, hnm⟩ := id C
  unfold f0_270_16 at hK
  exact o_retN X hx (t := .boolean) hret (by simp) hlk (hb hby at_270) (by decide) (by decide) eT (hK _)

def f0_243 (x4 : Int32) (v0 : List Int32) : Int32 := (if (f2_0 v0) = (0 : Int32) then (if (own_len v0.length) = x4 then f0_270_16 else f0_269) else f0_269)
def s0_243 (x4 : Int32) (v0 : List Int32) : Prop := ((s2_0 v0) ∧ True)
set_option maxRecDepth 65536 in
set_option maxHeartbeats 40000000 in
theorem b0_243 (C : own_Cx p s m meth c Z ag code maxLocals "com/example/plumbline/plumbline/core/BignumsSignificantLengthPinLaw" ret "law") {T : State} {h : Heap} {z1 : Int64} {z0 : Slot} {z3 : Slot} {z7 : Slot} (x4 : Int32) (a0 : Addr) (v0 : List Int32) (X : Stand p l e R0 s m args below meth c T [] 1 6) (eT : T.heap = h) (Aa0 : own_AI Z h a0 .byte v0) (ga0 : s.heap.size ≤ a0) (hz0 : One z0) (hz3 : One z3) (hz7 : One z7) (hs : s0_243 x4 v0) (hK : ∀ h', K (some (.int (f0_243 x4 v0))) h' []) : own_Go p e below (own_Q s K cc0 ss0) T (mkF m 243 #[z0, .val (.long z1), .second, z3, .val (.int x4), .val (.ref a0), .val (.int (0 : Int32)), z7] []) := by
  obtain ⟨hx, hZ, hw, hby, hml, hown, hret, hlk, hnm⟩ := id C
  unfold f0_243 at hK
  unfold s0_243 at hs
  refine o_aload (pc' := 245) X hx (hb hby at_243) rfl rfl rfl ?_
  refine o_callP (W := 0) (pc' := 248) (argsL := [(.ref a0)]) (rest := []) (st' := [(.int (f2_0 v0))]) X hx hZ eT hown (hw _ (List.mem_of_getElem? (i := 6) rfl)) (hw _ (List.mem_of_getElem? (i := 7) rfl)) (hw _ (List.mem_of_getElem? (i := 8) rfl)) (hw _ (List.mem_of_getElem? (i := 9) rfl)) (by decide) (rm2 l Z ag hw [] a0 v0 h Aa0 hs.1) (by decide) (by decide) (by rw [hml]; rfl) pd_1 rfl rfl rfl rfl (hb hby at_245) rfl rfl rfl (by decide) (by decide) rfl fun T30 X30 e30 => ?_
  refine o_istoreS (pc' := 250) (l' := #[z0, .val (.long z1), .second, z3, .val (.int x4), .val (.ref a0), .val (.int (0 : Int32)), .val (.int (f2_0 v0))]) X30 hx (hb hby at_248) rfl hz7 rfl rfl ?_
  refine o_iload (pc' := 252) X30 hx (hb hby at_250) rfl rfl ?_
  refine o_iload (pc' := 254) X30 hx (hb hby at_252) rfl rfl ?_
  refine o_icN (P := (f2_0 v0) = (0 : Int32)) (pc1 := 269) (pc2 := 257) X30 hx XT.ii_ne_f XT.ii_ne_t (hb hby at_254) (by decide) (by decide) rfl (fun c31 => ?_) (fun c31 => ?_)
  · rw [if_neg c31] at hK
    exact b0_269 C X30 e30 hz0 hz3 (One.val rfl) (One.val rfl) (One.val rfl) (One.val rfl) hK
  · rw [if_pos c31] at hK
    refine o_aload (pc' := 259) X30 hx (hb hby at_257) rfl rfl rfl ?_
    refine o_alenI (pc' := 260)  X30 hx hZ e30 Aa0 (hb hby at_259) rfl rfl ?_
    refine o_iload (pc' := 262) X30 hx (hb hby at_260) rfl rfl ?_
    refine o_icN (P := (own_len v0.length) = x4) (pc1 := 269) (pc2 := 265) X30 hx XT.ii_ne_f XT.ii_ne_t (hb hby at_262) (by decide) (by decide) rfl (fun c32 => ?_) (fun c32 => ?_)
    · rw [if_neg c32] at hK
      exact b0_269 C X30 e30 hz0 hz3 (One.val rfl) (One.val rfl) (One.val rfl) (One.val rfl) hK
    · rw [if_pos c32] at hK
      refine o_iconst (pc' := 266) (x := (1 : Int32)) X30 hx (hb hby at_265) (by decide) rfl ?_
      refine o_goto (pc' := 270) X30 hx (hb hby at_266) (by decide) (by decide) ?_
      exact b0_270_16 C X30 e30 hz0 hz3 (One.val rfl) (One.val rfl) (One.val rfl) (One.val rfl) hK

def f0_240 (x4 : Int32) (v0 : List Int32) : Int32 := (f0_243 x4 v0)
def s0_240 (x4 : Int32) (v0 : List Int32) : Prop := s0_243 x4 v0
set_option maxRecDepth 65536 in
set_option maxHeartbeats 40000000 in
theorem b0_240 (C : own_Cx p s m meth c Z ag code maxLocals "com/example/plumbline/plumbline/core/BignumsSignificantLengthPinLaw" ret "law") {T : State} {h : Heap} {z1 : Int64} {z0 : Slot} {z3 : Slot} {z6 : Slot} {z7 : Slot} (x4 : Int32) (a0 : Addr) (v0 : List Int32) (X : Stand p l e R0 s m args below meth c T [] 1 6) (eT : T.heap = h) (Aa0 : own_AI Z h a0 .byte v0) (ga0 : s.heap.size ≤ a0) (hz0 : One z0) (hz3 : One z3) (hz6 : One z6) (hz7 : One z7) (hs : s0_240 x4 v0) (hK : ∀ h', K (some (.int (f0_240 x4 v0))) h' []) : own_Go p e below (own_Q s K cc0 ss0) T (mkF m 240 #[z0, .val (.long z1), .second, z3, .val (.int x4), .val (.ref a0), z6, z7] []) := by
  obtain ⟨hx, hZ, hw, hby, hml, hown, hret, hlk, hnm⟩ := id C
  unfold f0_240 at hK
  unfold s0_240 at hs
  refine o_iconst (pc' := 241) (x := (0 : Int32)) X hx (hb hby at_240) (by decide) rfl ?_
  refine o_istoreS (pc' := 243) (l' := #[z0, .val (.long z1), .second, z3, .val (.int x4), .val (.ref a0), .val (.int (0 : Int32)), z7]) X hx (hb hby at_241) rfl hz6 rfl rfl ?_
  exact b0_243 C x4 a0 v0 X eT Aa0 ga0 hz0 hz3 hz7 hs hK

def f0_243_17 (x4 : Int32) (v0 : List Int32) (x6 : Int32) : Int32 := (if (f2_0 v0) = x6 then (if (own_len v0.length) = x4 then f0_270_16 else f0_269) else f0_269)
def s0_243_17 (x4 : Int32) (v0 : List Int32) (x6 : Int32) : Prop := ((s2_0 v0) ∧ True)
set_option maxRecDepth 65536 in
set_option maxHeartbeats 40000000 in
theorem b0_243_17 (C : own_Cx p s m meth c Z ag code maxLocals "com/example/plumbline/plumbline/core/BignumsSignificantLengthPinLaw" ret "law") {T : State} {h : Heap} {z1 : Int64} {z0 : Slot} {z3 : Slot} {z7 : Slot} (x4 : Int32) (a0 : Addr) (v0 : List Int32) (x6 : Int32) (X : Stand p l e R0 s m args below meth c T [] 1 6) (eT : T.heap = h) (Aa0 : own_AI Z h a0 .byte v0) (ga0 : s.heap.size ≤ a0) (hz0 : One z0) (hz3 : One z3) (hz7 : One z7) (hs : s0_243_17 x4 v0 x6) (hK : ∀ h', K (some (.int (f0_243_17 x4 v0 x6))) h' []) : own_Go p e below (own_Q s K cc0 ss0) T (mkF m 243 #[z0, .val (.long z1), .second, z3, .val (.int x4), .val (.ref a0), .val (.int x6), z7] []) := by
  obtain ⟨hx, hZ, hw, hby, hml, hown, hret, hlk, hnm⟩ := id C
  unfold f0_243_17 at hK
  unfold s0_243_17 at hs
  refine o_aload (pc' := 245) X hx (hb hby at_243) rfl rfl rfl ?_
  refine o_callP (W := 0) (pc' := 248) (argsL := [(.ref a0)]) (rest := []) (st' := [(.int (f2_0 v0))]) X hx hZ eT hown (hw _ (List.mem_of_getElem? (i := 6) rfl)) (hw _ (List.mem_of_getElem? (i := 7) rfl)) (hw _ (List.mem_of_getElem? (i := 8) rfl)) (hw _ (List.mem_of_getElem? (i := 9) rfl)) (by decide) (rm2 l Z ag hw [] a0 v0 h Aa0 hs.1) (by decide) (by decide) (by rw [hml]; rfl) pd_1 rfl rfl rfl rfl (hb hby at_245) rfl rfl rfl (by decide) (by decide) rfl fun T34 X34 e34 => ?_
  refine o_istoreS (pc' := 250) (l' := #[z0, .val (.long z1), .second, z3, .val (.int x4), .val (.ref a0), .val (.int x6), .val (.int (f2_0 v0))]) X34 hx (hb hby at_248) rfl hz7 rfl rfl ?_
  refine o_iload (pc' := 252) X34 hx (hb hby at_250) rfl rfl ?_
  refine o_iload (pc' := 254) X34 hx (hb hby at_252) rfl rfl ?_
  refine o_icN (P := (f2_0 v0) = x6) (pc1 := 269) (pc2 := 257) X34 hx XT.ii_ne_f XT.ii_ne_t (hb hby at_254) (by decide) (by decide) rfl (fun c35 => ?_) (fun c35 => ?_)
  · rw [if_neg c35] at hK
    exact b0_269 C X34 e34 hz0 hz3 (One.val rfl) (One.val rfl) (One.val rfl) (One.val rfl) hK
  · rw [if_pos c35] at hK
    refine o_aload (pc' := 259) X34 hx (hb hby at_257) rfl rfl rfl ?_
    refine o_alenI (pc' := 260)  X34 hx hZ e34 Aa0 (hb hby at_259) rfl rfl ?_
    refine o_iload (pc' := 262) X34 hx (hb hby at_260) rfl rfl ?_
    refine o_icN (P := (own_len v0.length) = x4) (pc1 := 269) (pc2 := 265) X34 hx XT.ii_ne_f XT.ii_ne_t (hb hby at_262) (by decide) (by decide) rfl (fun c36 => ?_) (fun c36 => ?_)
    · rw [if_neg c36] at hK
      exact b0_269 C X34 e34 hz0 hz3 (One.val rfl) (One.val rfl) (One.val rfl) (One.val rfl) hK
    · rw [if_pos c36] at hK
      refine o_iconst (pc' := 266) (x := (1 : Int32)) X34 hx (hb hby at_265) (by decide) rfl ?_
      refine o_goto (pc' := 270) X34 hx (hb hby at_266) (by decide) (by decide) ?_
      exact b0_270_16 C X34 e34 hz0 hz3 (One.val rfl) (One.val rfl) (One.val rfl) (One.val rfl) hK

def f0_218 (x4 : Int32) (v0 : List Int32) : Int32 := (if (5 : Int32) < x4 then (if (own_get v0 (5 : Int32)) = (0 : Int32) then (f0_240 x4 v0) else (f0_243_17 x4 v0 (x4 - (5 : Int32)))) else (f0_240 x4 v0))
def s0_218 (x4 : Int32) (v0 : List Int32) : Prop := (((5 : Int32) < x4 → (own_in v0.length (5 : Int32) ∧ (((own_get v0 (5 : Int32)) = (0 : Int32) → s0_240 x4 v0) ∧ (¬ ((own_get v0 (5 : Int32)) = (0 : Int32)) → s0_243_17 x4 v0 (x4 - (5 : Int32)))))) ∧ (¬ ((5 : Int32) < x4) → s0_240 x4 v0))
set_option maxRecDepth 65536 in
set_option maxHeartbeats 40000000 in
theorem b0_218 (C : own_Cx p s m meth c Z ag code maxLocals "com/example/plumbline/plumbline/core/BignumsSignificantLengthPinLaw" ret "law") {T : State} {h : Heap} {z1 : Int64} {z0 : Slot} {z3 : Slot} {z6 : Slot} {z7 : Slot} (x4 : Int32) (a0 : Addr) (v0 : List Int32) (X : Stand p l e R0 s m args below meth c T [] 1 6) (eT : T.heap = h) (Aa0 : own_AI Z h a0 .byte v0) (ga0 : s.heap.size ≤ a0) (hz0 : One z0) (hz3 : One z3) (hz6 : One z6) (hz7 : One z7) (hs : s0_218 x4 v0) (hK : ∀ h', K (some (.int (f0_218 x4 v0))) h' []) : own_Go p e below (own_Q s K cc0 ss0) T (mkF m 218 #[z0, .val (.long z1), .second, z3, .val (.int x4), .val (.ref a0), z6, z7] []) := by
  obtain ⟨hx, hZ, hw, hby, hml, hown, hret, hlk, hnm⟩ := id C
  unfold f0_218 at hK
  unfold s0_218 at hs
  refine o_iload (pc' := 220) X hx (hb hby at_218) rfl rfl ?_
  refine o_iconst (pc' := 221) (x := (5 : Int32)) X hx (hb hby at_220) (by decide) rfl ?_
  refine o_icN (P := (5 : Int32) < x4) (pc1 := 240) (pc2 := 224) X hx XT.ii_le_f XT.ii_le_t (hb hby at_221) (by decide) (by decide) rfl (fun c29 => ?_) (fun c29 => ?_)
  · rw [if_neg c29] at hK
    exact b0_240 C x4 a0 v0 X eT Aa0 ga0 hz0 hz3 hz6 hz7 (hs.2 c29) hK
  · rw [if_pos c29] at hK
    refine o_aload (pc' := 226) X hx (hb hby at_224) rfl rfl rfl ?_
    refine o_iconst (pc' := 227) (x := (5 : Int32)) X hx (hb hby at_226) (by decide) rfl ?_
    refine o_baload (pc' := 228)  X hx hZ eT Aa0 (hs.1 c29).1 (hb hby at_227) rfl rfl ?_
    refine o_ifP (P := (own_get v0 (5 : Int32)) = (0 : Int32)) (pc1 := 240) (pc2 := 231) X hx XT.i0_eq_t XT.i0_eq_f (hb hby at_228) (by decide) (by decide) rfl (fun c33 => ?_) (fun c33 => ?_)
    · rw [if_pos c33] at hK
      exact b0_240 C x4 a0 v0 X eT Aa0 ga0 hz0 hz3 hz6 hz7 ((hs.1 c29).2.1 c33) hK
    · rw [if_neg c33] at hK
      refine o_iload (pc' := 233) X hx (hb hby at_231) rfl rfl ?_
      refine o_iconst (pc' := 234) (x := (5 : Int32)) X hx (hb hby at_233) (by decide) rfl ?_
      refine o_isub (pc' := 235)  X hx (hb hby at_234) rfl rfl ?_
      refine o_istoreS (pc' := 237) (l' := #[z0, .val (.long z1), .second, z3, .val (.int x4), .val (.ref a0), .val (.int (x4 - (5 : Int32))), z7]) X hx (hb hby at_235) rfl hz6 rfl rfl ?_
      refine o_goto (pc' := 243) X hx (hb hby at_237) (by decide) (by decide) ?_
      exact b0_243_17 C x4 a0 v0 (x4 - (5 : Int32)) X eT Aa0 ga0 hz0 hz3 hz7 ((hs.1 c29).2.2 c33) hK

def f0_196 (x4 : Int32) (v0 : List Int32) : Int32 := (if (4 : Int32) < x4 then (if (own_get v0 (4 : Int32)) = (0 : Int32) then (f0_218 x4 v0) else (f0_243_17 x4 v0 (x4 - (4 : Int32)))) else (f0_218 x4 v0))
def s0_196 (x4 : Int32) (v0 : List Int32) : Prop := (((4 : Int32) < x4 → (own_in v0.length (4 : Int32) ∧ (((own_get v0 (4 : Int32)) = (0 : Int32) → s0_218 x4 v0) ∧ (¬ ((own_get v0 (4 : Int32)) = (0 : Int32)) → s0_243_17 x4 v0 (x4 - (4 : Int32)))))) ∧ (¬ ((4 : Int32) < x4) → s0_218 x4 v0))
set_option maxRecDepth 65536 in
set_option maxHeartbeats 40000000 in
theorem b0_196 (C : own_Cx p s m meth c Z ag code maxLocals "com/example/plumbline/plumbline/core/BignumsSignificantLengthPinLaw" ret "law") {T : State} {h : Heap} {z1 : Int64} {z0 : Slot} {z3 : Slot} {z6 : Slot} {z7 : Slot} (x4 : Int32) (a0 : Addr) (v0 : List Int32) (X : Stand p l e R0 s m args below meth c T [] 1 6) (eT : T.heap = h) (Aa0 : own_AI Z h a0 .byte v0) (ga0 : s.heap.size ≤ a0) (hz0 : One z0) (hz3 : One z3) (hz6 : One z6) (hz7 : One z7) (hs : s0_196 x4 v0) (hK : ∀ h', K (some (.int (f0_196 x4 v0))) h' []) : own_Go p e below (own_Q s K cc0 ss0) T (mkF m 196 #[z0, .val (.long z1), .second, z3, .val (.int x4), .val (.ref a0), z6, z7] []) := by
  obtain ⟨hx, hZ, hw, hby, hml, hown, hret, hlk, hnm⟩ := id C
  unfold f0_196 at hK
  unfold s0_196 at hs
  refine o_iload (pc' := 198) X hx (hb hby at_196) rfl rfl ?_
  refine o_iconst (pc' := 199) (x := (4 : Int32)) X hx (hb hby at_198) (by decide) rfl ?_
  refine o_icN (P := (4 : Int32) < x4) (pc1 := 218) (pc2 := 202) X hx XT.ii_le_f XT.ii_le_t (hb hby at_199) (by decide) (by decide) rfl (fun c28 => ?_) (fun c28 => ?_)
  · rw [if_neg c28] at hK
    exact b0_218 C x4 a0 v0 X eT Aa0 ga0 hz0 hz3 hz6 hz7 (hs.2 c28) hK
  · rw [if_pos c28] at hK
    refine o_aload (pc' := 204) X hx (hb hby at_202) rfl rfl rfl ?_
    refine o_iconst (pc' := 205) (x := (4 : Int32)) X hx (hb hby at_204) (by decide) rfl ?_
    refine o_baload (pc' := 206)  X hx hZ eT Aa0 (hs.1 c28).1 (hb hby at_205) rfl rfl ?_
    refine o_ifP (P := (own_get v0 (4 : Int32)) = (0 : Int32)) (pc1 := 218) (pc2 := 209) X hx XT.i0_eq_t XT.i0_eq_f (hb hby at_206) (by decide) (by decide) rfl (fun c37 => ?_) (fun c37 => ?_)
    · rw [if_pos c37] at hK
      exact b0_218 C x4 a0 v0 X eT Aa0 ga0 hz0 hz3 hz6 hz7 ((hs.1 c28).2.1 c37) hK
    · rw [if_neg c37] at hK
      refine o_iload (pc' := 211) X hx (hb hby at_209) rfl rfl ?_
      refine o_iconst (pc' := 212) (x := (4 : Int32)) X hx (hb hby at_211) (by decide) rfl ?_
      refine o_isub (pc' := 213)  X hx (hb hby at_212) rfl rfl ?_
      refine o_istoreS (pc' := 215) (l' := #[z0, .val (.long z1), .second, z3, .val (.int x4), .val (.ref a0), .val (.int (x4 - (4 : Int32))), z7]) X hx (hb hby at_213) rfl hz6 rfl rfl ?_
      refine o_goto (pc' := 243) X hx (hb hby at_215) (by decide) (by decide) ?_
      exact b0_243_17 C x4 a0 v0 (x4 - (4 : Int32)) X eT Aa0 ga0 hz0 hz3 hz7 ((hs.1 c28).2.2 c37) hK

def f0_174 (x4 : Int32) (v0 : List Int32) : Int32 := (if (3 : Int32) < x4 then (if (own_get v0 (3 : Int32)) = (0 : Int32) then (f0_196 x4 v0) else (f0_243_17 x4 v0 (x4 - (3 : Int32)))) else (f0_196 x4 v0))
def s0_174 (x4 : Int32) (v0 : List Int32) : Prop := (((3 : Int32) < x4 → (own_in v0.length (3 : Int32) ∧ (((own_get v0 (3 : Int32)) = (0 : Int32) → s0_196 x4 v0) ∧ (¬ ((own_get v0 (3 : Int32)) = (0 : Int32)) → s0_243_17 x4 v0 (x4 - (3 : Int32)))))) ∧ (¬ ((3 : Int32) < x4) → s0_196 x4 v0))
set_option maxRecDepth 65536 in
set_option maxHeartbeats 40000000 in
theorem b0_174 (C : own_Cx p s m meth c Z ag code maxLocals "com/example/plumbline/plumbline/core/BignumsSignificantLengthPinLaw" ret "law") {T : State} {h : Heap} {z1 : Int64} {z0 : Slot} {z3 : Slot} {z6 : Slot} {z7 : Slot} (x4 : Int32) (a0 : Addr) (v0 : List Int32) (X : Stand p l e R0 s m args below meth c T [] 1 6) (eT : T.heap = h) (Aa0 : own_AI Z h a0 .byte v0) (ga0 : s.heap.size ≤ a0) (hz0 : One z0) (hz3 : One z3) (hz6 : One z6) (hz7 : One z7) (hs : s0_174 x4 v0) (hK : ∀ h', K (some (.int (f0_174 x4 v0))) h' []) : own_Go p e below (own_Q s K cc0 ss0) T (mkF m 174 #[z0, .val (.long z1), .second, z3, .val (.int x4), .val (.ref a0), z6, z7] []) := by
  obtain ⟨hx, hZ, hw, hby, hml, hown, hret, hlk, hnm⟩ := id C
  unfold f0_174 at hK
  unfold s0_174 at hs
  refine o_iload (pc' := 176) X hx (hb hby at_174) rfl rfl ?_
  refine o_iconst (pc' := 177) (x := (3 : Int32)) X hx (hb hby at_176) (by decide) rfl ?_
  refine o_icN (P := (3 : Int32) < x4) (pc1 := 196) (pc2 := 180) X hx XT.ii_le_f XT.ii_le_t (hb hby at_177) (by decide) (by decide) rfl (fun c27 => ?_) (fun c27 => ?_)
  · rw [if_neg c27] at hK
    exact b0_196 C x4 a0 v0 X eT Aa0 ga0 hz0 hz3 hz6 hz7 (hs.2 c27) hK
  · rw [if_pos c27] at hK
    refine o_aload (pc' := 182) X hx (hb hby at_180) rfl rfl rfl ?_
    refine o_iconst (pc' := 183) (x := (3 : Int32)) X hx (hb hby at_182) (by decide) rfl ?_
    refine o_baload (pc' := 184)  X hx hZ eT Aa0 (hs.1 c27).1 (hb hby at_183) rfl rfl ?_
    refine o_ifP (P := (own_get v0 (3 : Int32)) = (0 : Int32)) (pc1 := 196) (pc2 := 187) X hx XT.i0_eq_t XT.i0_eq_f (hb hby at_184) (by decide) (by decide) rfl (fun c38 => ?_) (fun c38 => ?_)
    · rw [if_pos c38] at hK
      exact b0_196 C x4 a0 v0 X eT Aa0 ga0 hz0 hz3 hz6 hz7 ((hs.1 c27).2.1 c38) hK
    · rw [if_neg c38] at hK
      refine o_iload (pc' := 189) X hx (hb hby at_187) rfl rfl ?_
      refine o_iconst (pc' := 190) (x := (3 : Int32)) X hx (hb hby at_189) (by decide) rfl ?_
      refine o_isub (pc' := 191)  X hx (hb hby at_190) rfl rfl ?_
      refine o_istoreS (pc' := 193) (l' := #[z0, .val (.long z1), .second, z3, .val (.int x4), .val (.ref a0), .val (.int (x4 - (3 : Int32))), z7]) X hx (hb hby at_191) rfl hz6 rfl rfl ?_
      refine o_goto (pc' := 243) X hx (hb hby at_193) (by decide) (by decide) ?_
      exact b0_243_17 C x4 a0 v0 (x4 - (3 : Int32)) X eT Aa0 ga0 hz0 hz3 hz7 ((hs.1 c27).2.2 c38) hK

def f0_152 (x4 : Int32) (v0 : List Int32) : Int32 := (if (2 : Int32) < x4 then (if (own_get v0 (2 : Int32)) = (0 : Int32) then (f0_174 x4 v0) else (f0_243_17 x4 v0 (x4 - (2 : Int32)))) else (f0_174 x4 v0))
def s0_152 (x4 : Int32) (v0 : List Int32) : Prop := (((2 : Int32) < x4 → (own_in v0.length (2 : Int32) ∧ (((own_get v0 (2 : Int32)) = (0 : Int32) → s0_174 x4 v0) ∧ (¬ ((own_get v0 (2 : Int32)) = (0 : Int32)) → s0_243_17 x4 v0 (x4 - (2 : Int32)))))) ∧ (¬ ((2 : Int32) < x4) → s0_174 x4 v0))
set_option maxRecDepth 65536 in
set_option maxHeartbeats 40000000 in
theorem b0_152 (C : own_Cx p s m meth c Z ag code maxLocals "com/example/plumbline/plumbline/core/BignumsSignificantLengthPinLaw" ret "law") {T : State} {h : Heap} {z1 : Int64} {z0 : Slot} {z3 : Slot} {z6 : Slot} {z7 : Slot} (x4 : Int32) (a0 : Addr) (v0 : List Int32) (X : Stand p l e R0 s m args below meth c T [] 1 6) (eT : T.heap = h) (Aa0 : own_AI Z h a0 .byte v0) (ga0 : s.heap.size ≤ a0) (hz0 : One z0) (hz3 : One z3) (hz6 : One z6) (hz7 : One z7) (hs : s0_152 x4 v0) (hK : ∀ h', K (some (.int (f0_152 x4 v0))) h' []) : own_Go p e below (own_Q s K cc0 ss0) T (mkF m 152 #[z0, .val (.long z1), .second, z3, .val (.int x4), .val (.ref a0), z6, z7] []) := by
  obtain ⟨hx, hZ, hw, hby, hml, hown, hret, hlk, hnm⟩ := id C
  unfold f0_152 at hK
  unfold s0_152 at hs
  refine o_iload (pc' := 154) X hx (hb hby at_152) rfl rfl ?_
  refine o_iconst (pc' := 155) (x := (2 : Int32)) X hx (hb hby at_154) (by decide) rfl ?_
  refine o_icN (P := (2 : Int32) < x4) (pc1 := 174) (pc2 := 158) X hx XT.ii_le_f XT.ii_le_t (hb hby at_155) (by decide) (by decide) rfl (fun c26 => ?_) (fun c26 => ?_)
  · rw [if_neg c26] at hK
    exact b0_174 C x4 a0 v0 X eT Aa0 ga0 hz0 hz3 hz6 hz7 (hs.2 c26) hK
  · rw [if_pos c26] at hK
    refine o_aload (pc' := 160) X hx (hb hby at_158) rfl rfl rfl ?_
    refine o_iconst (pc' := 161) (x := (2 : Int32)) X hx (hb hby at_160) (by decide) rfl ?_
    refine o_baload (pc' := 162)  X hx hZ eT Aa0 (hs.1 c26).1 (hb hby at_161) rfl rfl ?_
    refine o_ifP (P := (own_get v0 (2 : Int32)) = (0 : Int32)) (pc1 := 174) (pc2 := 165) X hx XT.i0_eq_t XT.i0_eq_f (hb hby at_162) (by decide) (by decide) rfl (fun c39 => ?_) (fun c39 => ?_)
    · rw [if_pos c39] at hK
      exact b0_174 C x4 a0 v0 X eT Aa0 ga0 hz0 hz3 hz6 hz7 ((hs.1 c26).2.1 c39) hK
    · rw [if_neg c39] at hK
      refine o_iload (pc' := 167) X hx (hb hby at_165) rfl rfl ?_
      refine o_iconst (pc' := 168) (x := (2 : Int32)) X hx (hb hby at_167) (by decide) rfl ?_
      refine o_isub (pc' := 169)  X hx (hb hby at_168) rfl rfl ?_
      refine o_istoreS (pc' := 171) (l' := #[z0, .val (.long z1), .second, z3, .val (.int x4), .val (.ref a0), .val (.int (x4 - (2 : Int32))), z7]) X hx (hb hby at_169) rfl hz6 rfl rfl ?_
      refine o_goto (pc' := 243) X hx (hb hby at_171) (by decide) (by decide) ?_
      exact b0_243_17 C x4 a0 v0 (x4 - (2 : Int32)) X eT Aa0 ga0 hz0 hz3 hz7 ((hs.1 c26).2.2 c39) hK

def f0_130 (x4 : Int32) (v0 : List Int32) : Int32 := (if (1 : Int32) < x4 then (if (own_get v0 (1 : Int32)) = (0 : Int32) then (f0_152 x4 v0) else (f0_243_17 x4 v0 (x4 - (1 : Int32)))) else (f0_152 x4 v0))
def s0_130 (x4 : Int32) (v0 : List Int32) : Prop := (((1 : Int32) < x4 → (own_in v0.length (1 : Int32) ∧ (((own_get v0 (1 : Int32)) = (0 : Int32) → s0_152 x4 v0) ∧ (¬ ((own_get v0 (1 : Int32)) = (0 : Int32)) → s0_243_17 x4 v0 (x4 - (1 : Int32)))))) ∧ (¬ ((1 : Int32) < x4) → s0_152 x4 v0))
set_option maxRecDepth 65536 in
set_option maxHeartbeats 40000000 in
theorem b0_130 (C : own_Cx p s m meth c Z ag code maxLocals "com/example/plumbline/plumbline/core/BignumsSignificantLengthPinLaw" ret "law") {T : State} {h : Heap} {z1 : Int64} {z0 : Slot} {z3 : Slot} {z6 : Slot} {z7 : Slot} (x4 : Int32) (a0 : Addr) (v0 : List Int32) (X : Stand p l e R0 s m args below meth c T [] 1 6) (eT : T.heap = h) (Aa0 : own_AI Z h a0 .byte v0) (ga0 : s.heap.size ≤ a0) (hz0 : One z0) (hz3 : One z3) (hz6 : One z6) (hz7 : One z7) (hs : s0_130 x4 v0) (hK : ∀ h', K (some (.int (f0_130 x4 v0))) h' []) : own_Go p e below (own_Q s K cc0 ss0) T (mkF m 130 #[z0, .val (.long z1), .second, z3, .val (.int x4), .val (.ref a0), z6, z7] []) := by
  obtain ⟨hx, hZ, hw, hby, hml, hown, hret, hlk, hnm⟩ := id C
  unfold f0_130 at hK
  unfold s0_130 at hs
  refine o_iload (pc' := 132) X hx (hb hby at_130) rfl rfl ?_
  refine o_iconst (pc' := 133) (x := (1 : Int32)) X hx (hb hby at_132) (by decide) rfl ?_
  refine o_icN (P := (1 : Int32) < x4) (pc1 := 152) (pc2 := 136) X hx XT.ii_le_f XT.ii_le_t (hb hby at_133) (by decide) (by decide) rfl (fun c25 => ?_) (fun c25 => ?_)
  · rw [if_neg c25] at hK
    exact b0_152 C x4 a0 v0 X eT Aa0 ga0 hz0 hz3 hz6 hz7 (hs.2 c25) hK
  · rw [if_pos c25] at hK
    refine o_aload (pc' := 138) X hx (hb hby at_136) rfl rfl rfl ?_
    refine o_iconst (pc' := 139) (x := (1 : Int32)) X hx (hb hby at_138) (by decide) rfl ?_
    refine o_baload (pc' := 140)  X hx hZ eT Aa0 (hs.1 c25).1 (hb hby at_139) rfl rfl ?_
    refine o_ifP (P := (own_get v0 (1 : Int32)) = (0 : Int32)) (pc1 := 152) (pc2 := 143) X hx XT.i0_eq_t XT.i0_eq_f (hb hby at_140) (by decide) (by decide) rfl (fun c40 => ?_) (fun c40 => ?_)
    · rw [if_pos c40] at hK
      exact b0_152 C x4 a0 v0 X eT Aa0 ga0 hz0 hz3 hz6 hz7 ((hs.1 c25).2.1 c40) hK
    · rw [if_neg c40] at hK
      refine o_iload (pc' := 145) X hx (hb hby at_143) rfl rfl ?_
      refine o_iconst (pc' := 146) (x := (1 : Int32)) X hx (hb hby at_145) (by decide) rfl ?_
      refine o_isub (pc' := 147)  X hx (hb hby at_146) rfl rfl ?_
      refine o_istoreS (pc' := 149) (l' := #[z0, .val (.long z1), .second, z3, .val (.int x4), .val (.ref a0), .val (.int (x4 - (1 : Int32))), z7]) X hx (hb hby at_147) rfl hz6 rfl rfl ?_
      refine o_goto (pc' := 243) X hx (hb hby at_149) (by decide) (by decide) ?_
      exact b0_243_17 C x4 a0 v0 (x4 - (1 : Int32)) X eT Aa0 ga0 hz0 hz3 hz7 ((hs.1 c25).2.2 c40) hK

def f0_111 (x4 : Int32) (v0 : List Int32) : Int32 := (if (0 : Int32) < x4 then (if (own_get v0 (0 : Int32)) = (0 : Int32) then (f0_130 x4 v0) else (f0_243_17 x4 v0 x4)) else (f0_130 x4 v0))
def s0_111 (x4 : Int32) (v0 : List Int32) : Prop := (((0 : Int32) < x4 → (own_in v0.length (0 : Int32) ∧ (((own_get v0 (0 : Int32)) = (0 : Int32) → s0_130 x4 v0) ∧ (¬ ((own_get v0 (0 : Int32)) = (0 : Int32)) → s0_243_17 x4 v0 x4)))) ∧ (¬ ((0 : Int32) < x4) → s0_130 x4 v0))
set_option maxRecDepth 65536 in
set_option maxHeartbeats 40000000 in
theorem b0_111 (C : own_Cx p s m meth c Z ag code maxLocals "com/example/plumbline/plumbline/core/BignumsSignificantLengthPinLaw" ret "law") {T : State} {h : Heap} {z1 : Int64} {z0 : Slot} {z3 : Slot} {z6 : Slot} {z7 : Slot} (x4 : Int32) (a0 : Addr) (v0 : List Int32) (X : Stand p l e R0 s m args below meth c T [] 1 6) (eT : T.heap = h) (Aa0 : own_AI Z h a0 .byte v0) (ga0 : s.heap.size ≤ a0) (hz0 : One z0) (hz3 : One z3) (hz6 : One z6) (hz7 : One z7) (hs : s0_111 x4 v0) (hK : ∀ h', K (some (.int (f0_111 x4 v0))) h' []) : own_Go p e below (own_Q s K cc0 ss0) T (mkF m 111 #[z0, .val (.long z1), .second, z3, .val (.int x4), .val (.ref a0), z6, z7] []) := by
  obtain ⟨hx, hZ, hw, hby, hml, hown, hret, hlk, hnm⟩ := id C
  unfold f0_111 at hK
  unfold s0_111 at hs
  refine o_iload (pc' := 113) X hx (hb hby at_111) rfl rfl ?_
  refine o_ifN (P := (0 : Int32) < x4) (pc1 := 130) (pc2 := 116) X hx XT.i0_le_f XT.i0_le_t (hb hby at_113) (by decide) (by decide) rfl (fun c24 => ?_) (fun c24 => ?_)
  · rw [if_neg c24] at hK
    exact b0_130 C x4 a0 v0 X eT Aa0 ga0 hz0 hz3 hz6 hz7 (hs.2 c24) hK
  · rw [if_pos c24] at hK
    refine o_aload (pc' := 118) X hx (hb hby at_116) rfl rfl rfl ?_
    refine o_iconst (pc' := 119) (x := (0 : Int32)) X hx (hb hby at_118) (by decide) rfl ?_
    refine o_baload (pc' := 120)  X hx hZ eT Aa0 (hs.1 c24).1 (hb hby at_119) rfl rfl ?_
    refine o_ifP (P := (own_get v0 (0 : Int32)) = (0 : Int32)) (pc1 := 130) (pc2 := 123) X hx XT.i0_eq_t XT.i0_eq_f (hb hby at_120) (by decide) (by decide) rfl (fun c41 => ?_) (fun c41 => ?_)
    · rw [if_pos c41] at hK
      exact b0_130 C x4 a0 v0 X eT Aa0 ga0 hz0 hz3 hz6 hz7 ((hs.1 c24).2.1 c41) hK
    · rw [if_neg c41] at hK
      refine o_iload (pc' := 125) X hx (hb hby at_123) rfl rfl ?_
      refine o_istoreS (pc' := 127) (l' := #[z0, .val (.long z1), .second, z3, .val (.int x4), .val (.ref a0), .val (.int x4), z7]) X hx (hb hby at_125) rfl hz6 rfl rfl ?_
      refine o_goto (pc' := 243) X hx (hb hby at_127) (by decide) (by decide) ?_
      exact b0_243_17 C x4 a0 v0 x4 X eT Aa0 ga0 hz0 hz3 hz7 ((hs.1 c24).2.2 c41) hK

def f0_95 (x1 : Int64) (x3 : Int32) (x4 : Int32) (v0 : List Int32) : Int32 := (if (5 : Int32) < x4 then (f0_111 x4 (own_set v0 (5 : Int32) (own_i2b (f3_0 x1 x3 (5 : Int32))))) else (f0_111 x4 v0))
def s0_95 (x1 : Int64) (x3 : Int32) (x4 : Int32) (v0 : List Int32) : Prop := (((5 : Int32) < x4 → (own_in v0.length (5 : Int32) ∧ s0_111 x4 (own_set v0 (5 : Int32) (own_i2b (f3_0 x1 x3 (5 : Int32)))))) ∧ (¬ ((5 : Int32) < x4) → s0_111 x4 v0))
set_option maxRecDepth 65536 in
set_option maxHeartbeats 40000000 in
theorem b0_95 (C : own_Cx p s m meth c Z ag code maxLocals "com/example/plumbline/plumbline/core/BignumsSignificantLengthPinLaw" ret "law") {T : State} {h : Heap} {z0 : Slot} {z6 : Slot} {z7 : Slot} (x1 : Int64) (x3 : Int32) (x4 : Int32) (a0 : Addr) (v0 : List Int32) (X : Stand p l e R0 s m args below meth c T [] 1 6) (eT : T.heap = h) (Aa0 : own_AI Z h a0 .byte v0) (ga0 : s.heap.size ≤ a0) (hz0 : One z0) (hz6 : One z6) (hz7 : One z7) (hs : s0_95 x1 x3 x4 v0) (hK : ∀ h', K (some (.int (f0_95 x1 x3 x4 v0))) h' []) : own_Go p e below (own_Q s K cc0 ss0) T (mkF m 95 #[z0, .val (.long x1), .second, .val (.int x3), .val (.int x4), .val (.ref a0), z6, z7] []) := by
  obtain ⟨hx, hZ, hw, hby, hml, hown, hret, hlk, hnm⟩ := id C
  unfold f0_95 at hK
  unfold s0_95 at hs
  refine o_iload (pc' := 97) X hx (hb hby at_95) rfl rfl ?_
  refine o_iconst (pc' := 98) (x := (5 : Int32)) X hx (hb hby at_97) (by decide) rfl ?_
  refine o_icN (P := (5 : Int32) < x4) (pc1 := 111) (pc2 := 101) X hx XT.ii_le_f XT.ii_le_t (hb hby at_98) (by decide) (by decide) rfl (fun c23 => ?_) (fun c23 => ?_)
  · rw [if_neg c23] at hK
    exact b0_111 C x4 a0 v0 X eT Aa0 ga0 hz0 (One.val rfl) hz6 hz7 (hs.2 c23) hK
  · rw [if_pos c23] at hK
    refine o_aload (pc' := 103) X hx (hb hby at_101) rfl rfl rfl ?_
    refine o_iconst (pc' := 104) (x := (5 : Int32)) X hx (hb hby at_103) (by decide) rfl ?_
    refine o_lloadN (pc' := 105) X hx (hb hby at_104) rfl rfl ?_
    refine o_iloadN (pc' := 106) X hx (hb hby at_105) rfl rfl ?_
    refine o_iconst (pc' := 107) (x := (5 : Int32)) X hx (hb hby at_106) (by decide) rfl ?_
    refine o_callP (W := 2) (pc' := 110) (argsL := [(.long x1), (.int x3), (.int (5 : Int32))]) (rest := [(.int (5 : Int32)), (.ref a0)]) (st' := [(.int (f3_0 x1 x3 (5 : Int32))), (.int (5 : Int32)), (.ref a0)]) X hx hZ eT hown (hw _ (List.mem_of_getElem? (i := 10) rfl)) (hw _ (List.mem_of_getElem? (i := 11) rfl)) (hw _ (List.mem_of_getElem? (i := 3) rfl)) (hw _ (List.mem_of_getElem? (i := 12) rfl)) (by decide) (rm3 l Z ag hw [] x1 x3 (5 : Int32) h) (by decide) (by decide) (by rw [hml]; rfl) pd_2 rfl rfl rfl rfl (hb hby at_107) rfl rfl rfl (by decide) (by decide) rfl fun T42 X42 e42 => ?_
    refine o_bastore (pc' := 111) (vs' := (own_set v0 (5 : Int32) (own_i2b (f3_0 x1 x3 (5 : Int32))))) X42 hx hZ e42 Aa0 (hs.1 c23).1 (hb hby at_110) rfl rfl fun T43 h43 X43 e43 W43 A43 => ?_
    have Y43 := own_drop X43 ga0
    exact b0_111 C x4 a0 (own_set v0 (5 : Int32) (own_i2b (f3_0 x1 x3 (5 : Int32)))) Y43 e43 A43 ga0 hz0 (One.val rfl) hz6 hz7 (hs.1 c23).2 hK

def f0_79 (x1 : Int64) (x3 : Int32) (x4 : Int32) (v0 : List Int32) : Int32 := (if (4 : Int32) < x4 then (f0_95 x1 x3 x4 (own_set v0 (4 : Int32) (own_i2b (f3_0 x1 x3 (4 : Int32))))) else (f0_95 x1 x3 x4 v0))
def s0_79 (x1 : Int64) (x3 : Int32) (x4 : Int32) (v0 : List Int32) : Prop := (((4 : Int32) < x4 → (own_in v0.length (4 : Int32) ∧ s0_95 x1 x3 x4 (own_set v0 (4 : Int32) (own_i2b (f3_0 x1 x3 (4 : Int32)))))) ∧ (¬ ((4 : Int32) < x4) → s0_95 x1 x3 x4 v0))
set_option maxRecDepth 65536 in
set_option maxHeartbeats 40000000 in
theorem b0_79 (C : own_Cx p s m meth c Z ag code maxLocals "com/example/plumbline/plumbline/core/BignumsSignificantLengthPinLaw" ret "law") {T : State} {h : Heap} {z0 : Slot} {z6 : Slot} {z7 : Slot} (x1 : Int64) (x3 : Int32) (x4 : Int32) (a0 : Addr) (v0 : List Int32) (X : Stand p l e R0 s m args below meth c T [] 1 6) (eT : T.heap = h) (Aa0 : own_AI Z h a0 .byte v0) (ga0 : s.heap.size ≤ a0) (hz0 : One z0) (hz6 : One z6) (hz7 : One z7) (hs : s0_79 x1 x3 x4 v0) (hK : ∀ h', K (some (.int (f0_79 x1 x3 x4 v0))) h' []) : own_Go p e below (own_Q s K cc0 ss0) T (mkF m 79 #[z0, .val (.long x1), .second, .val (.int x3), .val (.int x4), .val (.ref a0), z6, z7] []) := by
  obtain ⟨hx, hZ, hw, hby, hml, hown, hret, hlk, hnm⟩ := id C
  unfold f0_79 at hK
  unfold s0_79 at hs
  refine o_iload (pc' := 81) X hx (hb hby at_79) rfl rfl ?_
  refine o_iconst (pc' := 82) (x := (4 : Int32)) X hx (hb hby at_81) (by decide) rfl ?_
  refine o_icN (P := (4 : Int32) < x4) (pc1 := 95) (pc2 := 85) X hx XT.ii_le_f XT.ii_le_t (hb hby at_82) (by decide) (by decide) rfl (fun c22 => ?_) (fun c22 => ?_)
  · rw [if_neg c22] at hK
    exact b0_95 C x1 x3 x4 a0 v0 X eT Aa0 ga0 hz0 hz6 hz7 (hs.2 c22) hK
  · rw [if_pos c22] at hK
    refine o_aload (pc' := 87) X hx (hb hby at_85) rfl rfl rfl ?_
    refine o_iconst (pc' := 88) (x := (4 : Int32)) X hx (hb hby at_87) (by decide) rfl ?_
    refine o_lloadN (pc' := 89) X hx (hb hby at_88) rfl rfl ?_
    refine o_iloadN (pc' := 90) X hx (hb hby at_89) rfl rfl ?_
    refine o_iconst (pc' := 91) (x := (4 : Int32)) X hx (hb hby at_90) (by decide) rfl ?_
    refine o_callP (W := 2) (pc' := 94) (argsL := [(.long x1), (.int x3), (.int (4 : Int32))]) (rest := [(.int (4 : Int32)), (.ref a0)]) (st' := [(.int (f3_0 x1 x3 (4 : Int32))), (.int (4 : Int32)), (.ref a0)]) X hx hZ eT hown (hw _ (List.mem_of_getElem? (i := 10) rfl)) (hw _ (List.mem_of_getElem? (i := 11) rfl)) (hw _ (List.mem_of_getElem? (i := 3) rfl)) (hw _ (List.mem_of_getElem? (i := 12) rfl)) (by decide) (rm3 l Z ag hw [] x1 x3 (4 : Int32) h) (by decide) (by decide) (by rw [hml]; rfl) pd_2 rfl rfl rfl rfl (hb hby at_91) rfl rfl rfl (by decide) (by decide) rfl fun T44 X44 e44 => ?_
    refine o_bastore (pc' := 95) (vs' := (own_set v0 (4 : Int32) (own_i2b (f3_0 x1 x3 (4 : Int32))))) X44 hx hZ e44 Aa0 (hs.1 c22).1 (hb hby at_94) rfl rfl fun T45 h45 X45 e45 W45 A45 => ?_
    have Y45 := own_drop X45 ga0
    exact b0_95 C x1 x3 x4 a0 (own_set v0 (4 : Int32) (own_i2b (f3_0 x1 x3 (4 : Int32)))) Y45 e45 A45 ga0 hz0 hz6 hz7 (hs.1 c22).2 hK

def f0_63 (x1 : Int64) (x3 : Int32) (x4 : Int32) (v0 : List Int32) : Int32 := (if (3 : Int32) < x4 then (f0_79 x1 x3 x4 (own_set v0 (3 : Int32) (own_i2b (f3_0 x1 x3 (3 : Int32))))) else (f0_79 x1 x3 x4 v0))
def s0_63 (x1 : Int64) (x3 : Int32) (x4 : Int32) (v0 : List Int32) : Prop := (((3 : Int32) < x4 → (own_in v0.length (3 : Int32) ∧ s0_79 x1 x3 x4 (own_set v0 (3 : Int32) (own_i2b (f3_0 x1 x3 (3 : Int32)))))) ∧ (¬ ((3 : Int32) < x4) → s0_79 x1 x3 x4 v0))
set_option maxRecDepth 65536 in
set_option maxHeartbeats 40000000 in
theorem b0_63 (C : own_Cx p s m meth c Z ag code maxLocals "com/example/plumbline/plumbline/core/BignumsSignificantLengthPinLaw" ret "law") {T : State} {h : Heap} {z0 : Slot} {z6 : Slot} {z7 : Slot} (x1 : Int64) (x3 : Int32) (x4 : Int32) (a0 : Addr) (v0 : List Int32) (X : Stand p l e R0 s m args below meth c T [] 1 6) (eT : T.heap = h) (Aa0 : own_AI Z h a0 .byte v0) (ga0 : s.heap.size ≤ a0) (hz0 : One z0) (hz6 : One z6) (hz7 : One z7) (hs : s0_63 x1 x3 x4 v0) (hK : ∀ h', K (some (.int (f0_63 x1 x3 x4 v0))) h' []) : own_Go p e below (own_Q s K cc0 ss0) T (mkF m 63 #[z0, .val (.long x1), .second, .val (.int x3), .val (.int x4), .val (.ref a0), z6, z7] []) := by
  obtain ⟨hx, hZ, hw, hby, hml, hown, hret, hlk, hnm⟩ := id C
  unfold f0_63 at hK
  unfold s0_63 at hs
  refine o_iload (pc' := 65) X hx (hb hby at_63) rfl rfl ?_
  refine o_iconst (pc' := 66) (x := (3 : Int32)) X hx (hb hby at_65) (by decide) rfl ?_
  refine o_icN (P := (3 : Int32) < x4) (pc1 := 79) (pc2 := 69) X hx XT.ii_le_f XT.ii_le_t (hb hby at_66) (by decide) (by decide) rfl (fun c21 => ?_) (fun c21 => ?_)
  · rw [if_neg c21] at hK
    exact b0_79 C x1 x3 x4 a0 v0 X eT Aa0 ga0 hz0 hz6 hz7 (hs.2 c21) hK
  · rw [if_pos c21] at hK
    refine o_aload (pc' := 71) X hx (hb hby at_69) rfl rfl rfl ?_
    refine o_iconst (pc' := 72) (x := (3 : Int32)) X hx (hb hby at_71) (by decide) rfl ?_
    refine o_lloadN (pc' := 73) X hx (hb hby at_72) rfl rfl ?_
    refine o_iloadN (pc' := 74) X hx (hb hby at_73) rfl rfl ?_
    refine o_iconst (pc' := 75) (x := (3 : Int32)) X hx (hb hby at_74) (by decide) rfl ?_
    refine o_callP (W := 2) (pc' := 78) (argsL := [(.long x1), (.int x3), (.int (3 : Int32))]) (rest := [(.int (3 : Int32)), (.ref a0)]) (st' := [(.int (f3_0 x1 x3 (3 : Int32))), (.int (3 : Int32)), (.ref a0)]) X hx hZ eT hown (hw _ (List.mem_of_getElem? (i := 10) rfl)) (hw _ (List.mem_of_getElem? (i := 11) rfl)) (hw _ (List.mem_of_getElem? (i := 3) rfl)) (hw _ (List.mem_of_getElem? (i := 12) rfl)) (by decide) (rm3 l Z ag hw [] x1 x3 (3 : Int32) h) (by decide) (by decide) (by rw [hml]; rfl) pd_2 rfl rfl rfl rfl (hb hby at_75) rfl rfl rfl (by decide) (by decide) rfl fun T46 X46 e46 => ?_
    refine o_bastore (pc' := 79) (vs' := (own_set v0 (3 : Int32) (own_i2b (f3_0 x1 x3 (3 : Int32))))) X46 hx hZ e46 Aa0 (hs.1 c21).1 (hb hby at_78) rfl rfl fun T47 h47 X47 e47 W47 A47 => ?_
    have Y47 := own_drop X47 ga0
    exact b0_79 C x1 x3 x4 a0 (own_set v0 (3 : Int32) (own_i2b (f3_0 x1 x3 (3 : Int32)))) Y47 e47 A47 ga0 hz0 hz6 hz7 (hs.1 c21).2 hK

def f0_47 (x1 : Int64) (x3 : Int32) (x4 : Int32) (v0 : List Int32) : Int32 := (if (2 : Int32) < x4 then (f0_63 x1 x3 x4 (own_set v0 (2 : Int32) (own_i2b (f3_0 x1 x3 (2 : Int32))))) else (f0_63 x1 x3 x4 v0))
def s0_47 (x1 : Int64) (x3 : Int32) (x4 : Int32) (v0 : List Int32) : Prop := (((2 : Int32) < x4 → (own_in v0.length (2 : Int32) ∧ s0_63 x1 x3 x4 (own_set v0 (2 : Int32) (own_i2b (f3_0 x1 x3 (2 : Int32)))))) ∧ (¬ ((2 : Int32) < x4) → s0_63 x1 x3 x4 v0))
set_option maxRecDepth 65536 in
set_option maxHeartbeats 40000000 in
theorem b0_47 (C : own_Cx p s m meth c Z ag code maxLocals "com/example/plumbline/plumbline/core/BignumsSignificantLengthPinLaw" ret "law") {T : State} {h : Heap} {z0 : Slot} {z6 : Slot} {z7 : Slot} (x1 : Int64) (x3 : Int32) (x4 : Int32) (a0 : Addr) (v0 : List Int32) (X : Stand p l e R0 s m args below meth c T [] 1 6) (eT : T.heap = h) (Aa0 : own_AI Z h a0 .byte v0) (ga0 : s.heap.size ≤ a0) (hz0 : One z0) (hz6 : One z6) (hz7 : One z7) (hs : s0_47 x1 x3 x4 v0) (hK : ∀ h', K (some (.int (f0_47 x1 x3 x4 v0))) h' []) : own_Go p e below (own_Q s K cc0 ss0) T (mkF m 47 #[z0, .val (.long x1), .second, .val (.int x3), .val (.int x4), .val (.ref a0), z6, z7] []) := by
  obtain ⟨hx, hZ, hw, hby, hml, hown, hret, hlk, hnm⟩ := id C
  unfold f0_47 at hK
  unfold s0_47 at hs
  refine o_iload (pc' := 49) X hx (hb hby at_47) rfl rfl ?_
  refine o_iconst (pc' := 50) (x := (2 : Int32)) X hx (hb hby at_49) (by decide) rfl ?_
  refine o_icN (P := (2 : Int32) < x4) (pc1 := 63) (pc2 := 53) X hx XT.ii_le_f XT.ii_le_t (hb hby at_50) (by decide) (by decide) rfl (fun c20 => ?_) (fun c20 => ?_)
  · rw [if_neg c20] at hK
    exact b0_63 C x1 x3 x4 a0 v0 X eT Aa0 ga0 hz0 hz6 hz7 (hs.2 c20) hK
  · rw [if_pos c20] at hK
    refine o_aload (pc' := 55) X hx (hb hby at_53) rfl rfl rfl ?_
    refine o_iconst (pc' := 56) (x := (2 : Int32)) X hx (hb hby at_55) (by decide) rfl ?_
    refine o_lloadN (pc' := 57) X hx (hb hby at_56) rfl rfl ?_
    refine o_iloadN (pc' := 58) X hx (hb hby at_57) rfl rfl ?_
    refine o_iconst (pc' := 59) (x := (2 : Int32)) X hx (hb hby at_58) (by decide) rfl ?_
    refine o_callP (W := 2) (pc' := 62) (argsL := [(.long x1), (.int x3), (.int (2 : Int32))]) (rest := [(.int (2 : Int32)), (.ref a0)]) (st' := [(.int (f3_0 x1 x3 (2 : Int32))), (.int (2 : Int32)), (.ref a0)]) X hx hZ eT hown (hw _ (List.mem_of_getElem? (i := 10) rfl)) (hw _ (List.mem_of_getElem? (i := 11) rfl)) (hw _ (List.mem_of_getElem? (i := 3) rfl)) (hw _ (List.mem_of_getElem? (i := 12) rfl)) (by decide) (rm3 l Z ag hw [] x1 x3 (2 : Int32) h) (by decide) (by decide) (by rw [hml]; rfl) pd_2 rfl rfl rfl rfl (hb hby at_59) rfl rfl rfl (by decide) (by decide) rfl fun T48 X48 e48 => ?_
    refine o_bastore (pc' := 63) (vs' := (own_set v0 (2 : Int32) (own_i2b (f3_0 x1 x3 (2 : Int32))))) X48 hx hZ e48 Aa0 (hs.1 c20).1 (hb hby at_62) rfl rfl fun T49 h49 X49 e49 W49 A49 => ?_
    have Y49 := own_drop X49 ga0
    exact b0_63 C x1 x3 x4 a0 (own_set v0 (2 : Int32) (own_i2b (f3_0 x1 x3 (2 : Int32)))) Y49 e49 A49 ga0 hz0 hz6 hz7 (hs.1 c20).2 hK

def f0_31 (x1 : Int64) (x3 : Int32) (x4 : Int32) (v0 : List Int32) : Int32 := (if (1 : Int32) < x4 then (f0_47 x1 x3 x4 (own_set v0 (1 : Int32) (own_i2b (f3_0 x1 x3 (1 : Int32))))) else (f0_47 x1 x3 x4 v0))
def s0_31 (x1 : Int64) (x3 : Int32) (x4 : Int32) (v0 : List Int32) : Prop := (((1 : Int32) < x4 → (own_in v0.length (1 : Int32) ∧ s0_47 x1 x3 x4 (own_set v0 (1 : Int32) (own_i2b (f3_0 x1 x3 (1 : Int32)))))) ∧ (¬ ((1 : Int32) < x4) → s0_47 x1 x3 x4 v0))
set_option maxRecDepth 65536 in
set_option maxHeartbeats 40000000 in
theorem b0_31 (C : own_Cx p s m meth c Z ag code maxLocals "com/example/plumbline/plumbline/core/BignumsSignificantLengthPinLaw" ret "law") {T : State} {h : Heap} {z0 : Slot} {z6 : Slot} {z7 : Slot} (x1 : Int64) (x3 : Int32) (x4 : Int32) (a0 : Addr) (v0 : List Int32) (X : Stand p l e R0 s m args below meth c T [] 1 6) (eT : T.heap = h) (Aa0 : own_AI Z h a0 .byte v0) (ga0 : s.heap.size ≤ a0) (hz0 : One z0) (hz6 : One z6) (hz7 : One z7) (hs : s0_31 x1 x3 x4 v0) (hK : ∀ h', K (some (.int (f0_31 x1 x3 x4 v0))) h' []) : own_Go p e below (own_Q s K cc0 ss0) T (mkF m 31 #[z0, .val (.long x1), .second, .val (.int x3), .val (.int x4), .val (.ref a0), z6, z7] []) := by
  obtain ⟨hx, hZ, hw, hby, hml, hown, hret, hlk, hnm⟩ := id C
  unfold f0_31 at hK
  unfold s0_31 at hs
  refine o_iload (pc' := 33) X hx (hb hby at_31) rfl rfl ?_
  refine o_iconst (pc' := 34) (x := (1 : Int32)) X hx (hb hby at_33) (by decide) rfl ?_
  refine o_icN (P := (1 : Int32) < x4) (pc1 := 47) (pc2 := 37) X hx XT.ii_le_f XT.ii_le_t (hb hby at_34) (by decide) (by decide) rfl (fun c19 => ?_) (fun c19 => ?_)
  · rw [if_neg c19] at hK
    exact b0_47 C x1 x3 x4 a0 v0 X eT Aa0 ga0 hz0 hz6 hz7 (hs.2 c19) hK
  · rw [if_pos c19] at hK
    refine o_aload (pc' := 39) X hx (hb hby at_37) rfl rfl rfl ?_
    refine o_iconst (pc' := 40) (x := (1 : Int32)) X hx (hb hby at_39) (by decide) rfl ?_
    refine o_lloadN (pc' := 41) X hx (hb hby at_40) rfl rfl ?_
    refine o_iloadN (pc' := 42) X hx (hb hby at_41) rfl rfl ?_
    refine o_iconst (pc' := 43) (x := (1 : Int32)) X hx (hb hby at_42) (by decide) rfl ?_
    refine o_callP (W := 2) (pc' := 46) (argsL := [(.long x1), (.int x3), (.int (1 : Int32))]) (rest := [(.int (1 : Int32)), (.ref a0)]) (st' := [(.int (f3_0 x1 x3 (1 : Int32))), (.int (1 : Int32)), (.ref a0)]) X hx hZ eT hown (hw _ (List.mem_of_getElem? (i := 10) rfl)) (hw _ (List.mem_of_getElem? (i := 11) rfl)) (hw _ (List.mem_of_getElem? (i := 3) rfl)) (hw _ (List.mem_of_getElem? (i := 12) rfl)) (by decide) (rm3 l Z ag hw [] x1 x3 (1 : Int32) h) (by decide) (by decide) (by rw [hml]; rfl) pd_2 rfl rfl rfl rfl (hb hby at_43) rfl rfl rfl (by decide) (by decide) rfl fun T50 X50 e50 => ?_
    refine o_bastore (pc' := 47) (vs' := (own_set v0 (1 : Int32) (own_i2b (f3_0 x1 x3 (1 : Int32))))) X50 hx hZ e50 Aa0 (hs.1 c19).1 (hb hby at_46) rfl rfl fun T51 h51 X51 e51 W51 A51 => ?_
    have Y51 := own_drop X51 ga0
    exact b0_47 C x1 x3 x4 a0 (own_set v0 (1 : Int32) (own_i2b (f3_0 x1 x3 (1 : Int32)))) Y51 e51 A51 ga0 hz0 hz6 hz7 (hs.1 c19).2 hK

def f0_0 (p0 : Int32) (q1 : Int64) (p2 : Int32) : Int32 := (if (0 : Int32) < (own_rem (p0 &&& (2147483647 : Int32)) (7 : Int32)) then (f0_31 q1 p2 (own_rem (p0 &&& (2147483647 : Int32)) (7 : Int32)) (own_set (f1_0 (own_rem (p0 &&& (2147483647 : Int32)) (7 : Int32))) (0 : Int32) (own_i2b (f3_0 q1 p2 (0 : Int32))))) else (f0_31 q1 p2 (own_rem (p0 &&& (2147483647 : Int32)) (7 : Int32)) (f1_0 (own_rem (p0 &&& (2147483647 : Int32)) (7 : Int32)))))
def s0_0 (p0 : Int32) (q1 : Int64) (p2 : Int32) : Prop := (((0 : Int32) < (own_rem (p0 &&& (2147483647 : Int32)) (7 : Int32)) → (own_in (f1_0 (own_rem (p0 &&& (2147483647 : Int32)) (7 : Int32))).length (0 : Int32) ∧ s0_31 q1 p2 (own_rem (p0 &&& (2147483647 : Int32)) (7 : Int32)) (own_set (f1_0 (own_rem (p0 &&& (2147483647 : Int32)) (7 : Int32))) (0 : Int32) (own_i2b (f3_0 q1 p2 (0 : Int32)))))) ∧ (¬ ((0 : Int32) < (own_rem (p0 &&& (2147483647 : Int32)) (7 : Int32))) → s0_31 q1 p2 (own_rem (p0 &&& (2147483647 : Int32)) (7 : Int32)) (f1_0 (own_rem (p0 &&& (2147483647 : Int32)) (7 : Int32)))))
set_option maxRecDepth 65536 in
set_option maxHeartbeats 40000000 in
theorem b0_0 (C : own_Cx p s m meth c Z ag code maxLocals "com/example/plumbline/plumbline/core/BignumsSignificantLengthPinLaw" ret "law") {T : State} {h : Heap} (p0 : Int32) (q1 : Int64) (p2 : Int32) (X : Stand p l e R0 s m args below meth c T [] 0 0) (eT : T.heap = h) (hs : s0_0 p0 q1 p2) (hK : ∀ h', K (some (.int (f0_0 p0 q1 p2))) h' []) : own_Go p e below (own_Q s K cc0 ss0) T (mkF m 0 #[.val (.int p0), .val (.long q1), .second, .val (.int p2), .unset, .unset, .unset, .unset] []) := by
  obtain ⟨hx, hZ, hw, hby, hml, hown, hret, hlk, hnm⟩ := id C
  unfold f0_0 at hK
  unfold s0_0 at hs
  refine o_iloadN (pc' := 1) X hx (hb hby at_0) rfl rfl ?_
  refine o_ldcI (pc' := 3) X hx hZ hown (hw _ (List.mem_of_getElem? (i := 0) rfl)) (hb hby at_1) rfl ?_
  refine o_iand (pc' := 4)  X hx (hb hby at_3) rfl rfl ?_
  refine o_bipush (pc' := 6) (x := (7 : Int32)) X hx (hb hby at_4) (by decide) rfl ?_
  refine o_irem (pc' := 7)  X hx (hb hby at_6) rfl (by decide) rfl ?_
  refine o_istore (pc' := 9) (l' := #[.val (.int p0), .val (.long q1), .second, .val (.int p2), .val (.int (own_rem (p0 &&& (2147483647 : Int32)) (7 : Int32))), .unset, .unset, .unset]) X hx (hb hby at_7) rfl rfl ?_
  refine o_iload (pc' := 11) X hx (hb hby at_9) rfl rfl ?_
  refine o_callS (W := 0) (pc' := 14) (argsL := [(.int (own_rem (p0 &&& (2147483647 : Int32)) (7 : Int32)))]) (rest := []) X hx hZ eT hown (hw _ (List.mem_of_getElem? (i := 1) rfl)) (hw _ (List.mem_of_getElem? (i := 2) rfl)) (hw _ (List.mem_of_getElem? (i := 3) rfl)) (hw _ (List.mem_of_getElem? (i := 4) rfl)) (by decide) (rm1 l Z ag hw [] (own_rem (p0 &&& (2147483647 : Int32)) (7 : Int32)) h) (by decide) (by decide) (by rw [hml]; rfl) pd_0 rfl rfl rfl rfl (hb hby at_11) rfl (by decide) (by decide) fun v17 T17 L17 X17 k17 => ?_
  obtain ⟨b17, rfl, rfl, P17, z17, A17⟩ := k17
  have Y17 : Stand p l e R0 s m args below meth c T17 [] 1 6 := own_nil X17
  have g17 : s.heap.size ≤ b17 := Nat.le_trans (own_sz X eT) z17
  refine o_astore (pc' := 16) (l' := #[.val (.int p0), .val (.long q1), .second, .val (.int p2), .val (.int (own_rem (p0 &&& (2147483647 : Int32)) (7 : Int32))), .val (.ref b17), .unset, .unset]) Y17 hx (hb hby at_14) rfl rfl rfl ?_
  refine o_iload (pc' := 18) Y17 hx (hb hby at_16) rfl rfl ?_
  refine o_ifN (P := (0 : Int32) < (own_rem (p0 &&& (2147483647 : Int32)) (7 : Int32))) (pc1 := 31) (pc2 := 21) Y17 hx XT.i0_le_f XT.i0_le_t (hb hby at_18) (by decide) (by decide) rfl (fun c18 => ?_) (fun c18 => ?_)
  · rw [if_neg c18] at hK
    exact b0_31 C q1 p2 (own_rem (p0 &&& (2147483647 : Int32)) (7 : Int32)) b17 (f1_0 (own_rem (p0 &&& (2147483647 : Int32)) (7 : Int32))) Y17 rfl A17 g17 (One.val rfl) One.u One.u (hs.2 c18) hK
  · rw [if_pos c18] at hK
    refine o_aload (pc' := 23) Y17 hx (hb hby at_21) rfl rfl rfl ?_
    refine o_iconst (pc' := 24) (x := (0 : Int32)) Y17 hx (hb hby at_23) (by decide) rfl ?_
    refine o_lloadN (pc' := 25) Y17 hx (hb hby at_24) rfl rfl ?_
    refine o_iloadN (pc' := 26) Y17 hx (hb hby at_25) rfl rfl ?_
    refine o_iconst (pc' := 27) (x := (0 : Int32)) Y17 hx (hb hby at_26) (by decide) rfl ?_
    refine o_callP (W := 2) (pc' := 30) (argsL := [(.long q1), (.int p2), (.int (0 : Int32))]) (rest := [(.int (0 : Int32)), (.ref b17)]) (st' := [(.int (f3_0 q1 p2 (0 : Int32))), (.int (0 : Int32)), (.ref b17)]) Y17 hx hZ rfl hown (hw _ (List.mem_of_getElem? (i := 10) rfl)) (hw _ (List.mem_of_getElem? (i := 11) rfl)) (hw _ (List.mem_of_getElem? (i := 3) rfl)) (hw _ (List.mem_of_getElem? (i := 12) rfl)) (by decide) (rm3 l Z ag hw [] q1 p2 (0 : Int32) T17.heap) (by decide) (by decide) (by rw [hml]; rfl) pd_2 rfl rfl rfl rfl (hb hby at_27) rfl rfl rfl (by decide) (by decide) rfl fun T52 X52 e52 => ?_
    refine o_bastore (pc' := 31) (vs' := (own_set (f1_0 (own_rem (p0 &&& (2147483647 : Int32)) (7 : Int32))) (0 : Int32) (own_i2b (f3_0 q1 p2 (0 : Int32))))) X52 hx hZ e52 A17 (hs.1 c18).1 (hb hby at_30) rfl rfl fun T53 h53 X53 e53 W53 A53 => ?_
    have Y53 := own_drop X53 g17
    exact b0_31 C q1 p2 (own_rem (p0 &&& (2147483647 : Int32)) (7 : Int32)) b17 (own_set (f1_0 (own_rem (p0 &&& (2147483647 : Int32)) (7 : Int32))) (0 : Int32) (own_i2b (f3_0 q1 p2 (0 : Int32)))) Y53 e53 A53 g17 (One.val rfl) One.u One.u (hs.1 c18).2 hK

end Body0
theorem ef_0 (m : MethodId) (p0 : Int32) (q1 : Int64) (p2 : Int32) : entryFrame m #[(.int p0), (.long q1), (.int p2)] maxLocals = mkF m 0 #[.val (.int p0), .val (.long q1), .second, .val (.int p2), .unset, .unset, .unset, .unset] [] := by first | (simp [entryFrame, mkF, argsToLocals, Value.category, maxLocals]; done) | rfl
set_option maxRecDepth 65536 in
set_option maxHeartbeats 40000000 in
theorem rm0 (l : Launch) (Z : State) (ag : Array Value) (hw : ∀ d ∈ tables_1, d.before ag Z = true) (ws : List Jvm.Cond) (p0 : Int32) (q1 : Int64) (p2 : Int32) (h0 : Heap) (hs : s0_0 p0 q1 p2) :
    MetFree l x (head1 (Jvm.Cond.code x code maxLocals ret :: ws) R0) (fun a U => a = #[(.int p0), (.long q1), (.int p2)] ∧ Z.Warmed39 U.vm ∧ U.heap = h0) (fun _ _ _ _ _ => True) (fun _ U o U' => ∃ v L, o = .returned v ∧ own_KL (some (.int (f0_0 p0 q1 p2))) v U'.heap L ∧ FrameEnd U o U' L cc0 ss0) := by
  refine MetFree.of_bodySF (plainFor_of_name pn_BignumsSignificantLengthPinLaw) hisR ?_
  intro p e s m args below meth c s₁ Bd hml0 hP hK
  obtain ⟨rfl, hZ, hh⟩ := hP
  have C : own_Cx p s m meth c Z ag code maxLocals "com/example/plumbline/plumbline/core/BignumsSignificantLengthPinLaw" ret "law" := ⟨Bd.exec, hZ, hw, Bd.bytes, hml0, findClass_of_methodNamed Bd.named, Bd.returns, Bd.notSynchronized, (name_of_methodNamed Bd.named Bd.method).1⟩
  have X0 : Stand p l e R0 s m #[(.int p0), (.long q1), (.int p2)] below meth c s₁ [] 0 0 := Stand.of_body Bd
  have e0 : s₁.heap = h0 := by rw [← hh, Bd.state]; rfl
  rw [ef_0]
  exact b0_0 (K := own_KL (some (.int (f0_0 p0 q1 p2)))) C p0 q1 p2 X0 e0 hs (fun _ => ⟨rfl, rfl⟩)

/-- the first places are 0, the next isn't: the length less so many; or all are 0 -/
theorem own_sig (v : List Int32) (hl : v.length < 60) : ∀ (c i fuel : Nat), i + c = v.length → c < fuel → s2_2 fuel v (Int32.ofNat i) ∧
    ((∃ j, i ≤ j ∧ j < v.length ∧ (∀ k, i ≤ k → k < j → v.getD k 0 = 0) ∧ v.getD j 0 ≠ 0 ∧ f2_2 fuel v (Int32.ofNat i) = Int32.ofNat (v.length - j)) ∨ ((∀ k, i ≤ k → k < v.length → v.getD k 0 = 0) ∧ f2_2 fuel v (Int32.ofNat i) = 0)) := by
  intro c
  have el : own_len v.length = Int32.ofNat v.length := rfl
  induction c with
  | zero =>
    intro i fuel hi hf
    obtain ⟨n, rfl⟩ : ∃ n, fuel = n + 1 := ⟨fuel - 1, by omega⟩
    have q : ¬ Int32.ofNat i < own_len v.length := by rw [el, own_nat_lt (by omega) (by omega)]; omega
    constructor
    · rw [s2_2]; exact ⟨fun q' => absurd q' q, fun _ => trivial⟩
    · right
      refine ⟨fun k h1 h2 => by omega, ?_⟩
      rw [f2_2, if_neg q, f2_20, el, own_nat_sub (by omega) (by omega), show v.length - i = 0 by omega]; rfl
  | succ c ih =>
    intro i fuel hi hf
    obtain ⟨n, rfl⟩ : ∃ n, fuel = n + 1 := ⟨fuel - 1, by omega⟩
    have q : Int32.ofNat i < own_len v.length := by rw [el, own_nat_lt (by omega) (by omega)]; omega
    have k := ih (i + 1) n (by omega) (by omega)
    have g : own_get v (Int32.ofNat i) = v.getD i 0 := own_nat_get v (by omega)
    by_cases z : v.getD i 0 = 0
    · constructor
      · rw [s2_2]
        refine ⟨fun _ => ⟨own_nat_in (by omega) (by omega), fun _ => ?_, fun _ => trivial⟩, fun q' => absurd q q'⟩
        rw [own_nat_one]; exact k.1
      · have e : f2_2 (n + 1) v (Int32.ofNat i) = f2_2 n v (Int32.ofNat (i + 1)) := by rw [f2_2, if_pos q, g, if_pos z, own_nat_one]
        rw [e]
        rcases k.2 with ⟨j, h1, h2, h3, h4, h5⟩ | ⟨h1, h2⟩
        · exact Or.inl ⟨j, by omega, h2, fun t t1 t2 => if w : t = i then by rw [w]; exact z else h3 t (by omega) t2, h4, h5⟩
        · exact Or.inr ⟨fun t t1 t2 => if w : t = i then by rw [w]; exact z else h1 t (by omega) t2, h2⟩
    · constructor
      · rw [s2_2, g]
        exact ⟨fun _ => ⟨own_nat_in (by omega) (by omega), fun z' => absurd z' z, fun _ => trivial⟩, fun q' => absurd q q'⟩
      · left
        refine ⟨i, Nat.le_refl _, by omega, fun t t1 t2 => by omega, z, ?_⟩
        rw [f2_2, if_pos q, g, if_neg z, f2_20, el, own_nat_sub (by omega) (by omega)]
theorem own_s20 (v : List Int32) (hl : v.length ≤ 6) : s2_0 v := (own_sig v (by omega) v.length 0 64 (by omega) (by omega)).1
theorem own_243 (n : Nat) (v : List Int32) (x : Int32) (hv : v.length = n) (hn : n ≤ 6) (h : f2_0 v = x) : s0_243_17 (Int32.ofNat n) v x ∧ f0_243_17 (Int32.ofNat n) v x = 1 := by
  constructor
  · exact ⟨own_s20 v (by omega), trivial⟩
  · unfold f0_243_17; rw [if_pos h, hv, if_pos (show own_len n = Int32.ofNat n from rfl)]; rfl
/-- all are 0: 0 -/
theorem own_zero (v : List Int32) (hl : v.length ≤ 6) (h : ∀ k, k < v.length → v.getD k 0 = 0) : f2_0 v = 0 := by
  rcases (own_sig v (by omega) v.length 0 64 (by omega) (by omega)).2 with ⟨j, h1, h2, h3, h4, h5⟩ | ⟨-, h2⟩
  · exact absurd (h j h2) h4
  · exact h2
/-- the first that isn't 0 lies at j -/
theorem own_first (v : List Int32) (hl : v.length ≤ 6) {j : Nat} (hj : j < v.length) (h : ∀ k, k < j → v.getD k 0 = 0) (h' : v.getD j 0 ≠ 0) : f2_0 v = Int32.ofNat (v.length - j) := by
  rcases (own_sig v (by omega) v.length 0 64 (by omega) (by omega)).2 with ⟨i, h1, h2, h3, h4, h5⟩ | ⟨h1, -⟩
  · have e : i = j := by
      rcases Nat.lt_trichotomy i j with q | q | q
      · exact absurd (h i q) h4
      · exact q
      · exact absurd (h3 j (by omega) q) h'
    rw [← e]; exact h5
  · exact absurd (h1 j (by omega) hj) h'
theorem own_240 (n : Nat) (v : List Int32) (hv : v.length = n) (hn : n ≤ 6) (h : ∀ k, k < 6 → k < n → v.getD k 0 = 0) : s0_240 (Int32.ofNat n) v ∧ f0_240 (Int32.ofNat n) v = 1 := by
  have z := own_zero v (by omega) (fun k hk => h k (by omega) (by omega))
  constructor
  · exact ⟨own_s20 v (by omega), trivial⟩
  · unfold f0_240 f0_243; rw [if_pos z, hv, if_pos (show own_len n = Int32.ofNat n from rfl)]; rfl
theorem own_218 (n : Nat) (v : List Int32) (hv : v.length = n) (hn : n ≤ 6) (h : ∀ k, k < 5 → k < n → v.getD k 0 = 0) : s0_218 (Int32.ofNat n) v ∧ f0_218 (Int32.ofNat n) v = 1 := by
  have g : own_get v (5 : Int32) = v.getD 5 0 := own_nat_get v (k := 5) (by omega)
  by_cases q : 5 < n
  · have q' : (5 : Int32) < Int32.ofNat n := (own_nat_lt (i := 5) (by omega) (by omega)).mpr q
    by_cases z : v.getD 5 0 = 0
    · have r := own_240 n v hv hn (fun k hk hk' => if w : k = 5 then by rw [w]; exact z else h k (by omega) hk')
      constructor
      · unfold s0_218; rw [g]
        exact ⟨fun _ => ⟨own_nat_in (k := 5) (by omega) (by omega), fun _ => r.1, fun z' => absurd z z'⟩, fun w => absurd q' w⟩
      · unfold f0_218; rw [if_pos q', g, if_pos z]; exact r.2
    · have e := own_first v (by omega) (j := 5) (by omega) (fun k hk => h k hk (by omega)) z
      have r := own_243 n v (Int32.ofNat n - (5 : Int32)) hv hn (by rw [e, hv]; rw [show (Int32.ofNat n - (5 : Int32)) = Int32.ofNat (n - 5) from own_nat_sub (b := 5) (by omega) (by omega)])
      constructor
      · unfold s0_218; rw [g]
        exact ⟨fun _ => ⟨own_nat_in (k := 5) (by omega) (by omega), fun z' => absurd z' z, fun _ => r.1⟩, fun w => absurd q' w⟩
      · unfold f0_218; rw [if_pos q', g, if_neg z]; exact r.2
  · have q' : ¬ (5 : Int32) < Int32.ofNat n := fun w => q ((own_nat_lt (i := 5) (by omega) (by omega)).mp w)
    have r := own_240 n v hv hn (fun k hk hk' => h k (by omega) hk')
    constructor
    · unfold s0_218
      exact ⟨fun w => absurd w q', fun _ => r.1⟩
    · unfold f0_218; rw [if_neg q']; exact r.2
theorem own_196 (n : Nat) (v : List Int32) (hv : v.length = n) (hn : n ≤ 6) (h : ∀ k, k < 4 → k < n → v.getD k 0 = 0) : s0_196 (Int32.ofNat n) v ∧ f0_196 (Int32.ofNat n) v = 1 := by
  have g : own_get v (4 : Int32) = v.getD 4 0 := own_nat_get v (k := 4) (by omega)
  by_cases q : 4 < n
  · have q' : (4 : Int32) < Int32.ofNat n := (own_nat_lt (i := 4) (by omega) (by omega)).mpr q
    by_cases z : v.getD 4 0 = 0
    · have r := own_218 n v hv hn (fun k hk hk' => if w : k = 4 then by rw [w]; exact z else h k (by omega) hk')
      constructor
      · unfold s0_196; rw [g]
        exact ⟨fun _ => ⟨own_nat_in (k := 4) (by omega) (by omega), fun _ => r.1, fun z' => absurd z z'⟩, fun w => absurd q' w⟩
      · unfold f0_196; rw [if_pos q', g, if_pos z]; exact r.2
    · have e := own_first v (by omega) (j := 4) (by omega) (fun k hk => h k hk (by omega)) z
      have r := own_243 n v (Int32.ofNat n - (4 : Int32)) hv hn (by rw [e, hv]; rw [show (Int32.ofNat n - (4 : Int32)) = Int32.ofNat (n - 4) from own_nat_sub (b := 4) (by omega) (by omega)])
      constructor
      · unfold s0_196; rw [g]
        exact ⟨fun _ => ⟨own_nat_in (k := 4) (by omega) (by omega), fun z' => absurd z' z, fun _ => r.1⟩, fun w => absurd q' w⟩
      · unfold f0_196; rw [if_pos q', g, if_neg z]; exact r.2
  · have q' : ¬ (4 : Int32) < Int32.ofNat n := fun w => q ((own_nat_lt (i := 4) (by omega) (by omega)).mp w)
    have r := own_218 n v hv hn (fun k hk hk' => h k (by omega) hk')
    constructor
    · unfold s0_196
      exact ⟨fun w => absurd w q', fun _ => r.1⟩
    · unfold f0_196; rw [if_neg q']; exact r.2
theorem own_174 (n : Nat) (v : List Int32) (hv : v.length = n) (hn : n ≤ 6) (h : ∀ k, k < 3 → k < n → v.getD k 0 = 0) : s0_174 (Int32.ofNat n) v ∧ f0_174 (Int32.ofNat n) v = 1 := by
  have g : own_get v (3 : Int32) = v.getD 3 0 := own_nat_get v (k := 3) (by omega)
  by_cases q : 3 < n
  · have q' : (3 : Int32) < Int32.ofNat n := (own_nat_lt (i := 3) (by omega) (by omega)).mpr q
    by_cases z : v.getD 3 0 = 0
    · have r := own_196 n v hv hn (fun k hk hk' => if w : k = 3 then by rw [w]; exact z else h k (by omega) hk')
      constructor
      · unfold s0_174; rw [g]
        exact ⟨fun _ => ⟨own_nat_in (k := 3) (by omega) (by omega), fun _ => r.1, fun z' => absurd z z'⟩, fun w => absurd q' w⟩
      · unfold f0_174; rw [if_pos q', g, if_pos z]; exact r.2
    · have e := own_first v (by omega) (j := 3) (by omega) (fun k hk => h k hk (by omega)) z
      have r := own_243 n v (Int32.ofNat n - (3 : Int32)) hv hn (by rw [e, hv]; rw [show (Int32.ofNat n - (3 : Int32)) = Int32.ofNat (n - 3) from own_nat_sub (b := 3) (by omega) (by omega)])
      constructor
      · unfold s0_174; rw [g]
        exact ⟨fun _ => ⟨own_nat_in (k := 3) (by omega) (by omega), fun z' => absurd z' z, fun _ => r.1⟩, fun w => absurd q' w⟩
      · unfold f0_174; rw [if_pos q', g, if_neg z]; exact r.2
  · have q' : ¬ (3 : Int32) < Int32.ofNat n := fun w => q ((own_nat_lt (i := 3) (by omega) (by omega)).mp w)
    have r := own_196 n v hv hn (fun k hk hk' => h k (by omega) hk')
    constructor
    · unfold s0_174
      exact ⟨fun w => absurd w q', fun _ => r.1⟩
    · unfold f0_174; rw [if_neg q']; exact r.2
theorem own_152 (n : Nat) (v : List Int32) (hv : v.length = n) (hn : n ≤ 6) (h : ∀ k, k < 2 → k < n → v.getD k 0 = 0) : s0_152 (Int32.ofNat n) v ∧ f0_152 (Int32.ofNat n) v = 1 := by
  have g : own_get v (2 : Int32) = v.getD 2 0 := own_nat_get v (k := 2) (by omega)
  by_cases q : 2 < n
  · have q' : (2 : Int32) < Int32.ofNat n := (own_nat_lt (i := 2) (by omega) (by omega)).mpr q
    by_cases z : v.getD 2 0 = 0
    · have r := own_174 n v hv hn (fun k hk hk' => if w : k = 2 then by rw [w]; exact z else h k (by omega) hk')
      constructor
      · unfold s0_152; rw [g]
        exact ⟨fun _ => ⟨own_nat_in (k := 2) (by omega) (by omega), fun _ => r.1, fun z' => absurd z z'⟩, fun w => absurd q' w⟩
      · unfold f0_152; rw [if_pos q', g, if_pos z]; exact r.2
    · have e := own_first v (by omega) (j := 2) (by omega) (fun k hk => h k hk (by omega)) z
      have r := own_243 n v (Int32.ofNat n - (2 : Int32)) hv hn (by rw [e, hv]; rw [show (Int32.ofNat n - (2 : Int32)) = Int32.ofNat (n - 2) from own_nat_sub (b := 2) (by omega) (by omega)])
      constructor
      · unfold s0_152; rw [g]
        exact ⟨fun _ => ⟨own_nat_in (k := 2) (by omega) (by omega), fun z' => absurd z' z, fun _ => r.1⟩, fun w => absurd q' w⟩
      · unfold f0_152; rw [if_pos q', g, if_neg z]; exact r.2
  · have q' : ¬ (2 : Int32) < Int32.ofNat n := fun w => q ((own_nat_lt (i := 2) (by omega) (by omega)).mp w)
    have r := own_174 n v hv hn (fun k hk hk' => h k (by omega) hk')
    constructor
    · unfold s0_152
      exact ⟨fun w => absurd w q', fun _ => r.1⟩
    · unfold f0_152; rw [if_neg q']; exact r.2
theorem own_130 (n : Nat) (v : List Int32) (hv : v.length = n) (hn : n ≤ 6) (h : ∀ k, k < 1 → k < n → v.getD k 0 = 0) : s0_130 (Int32.ofNat n) v ∧ f0_130 (Int32.ofNat n) v = 1 := by
  have g : own_get v (1 : Int32) = v.getD 1 0 := own_nat_get v (k := 1) (by omega)
  by_cases q : 1 < n
  · have q' : (1 : Int32) < Int32.ofNat n := (own_nat_lt (i := 1) (by omega) (by omega)).mpr q
    by_cases z : v.getD 1 0 = 0
    · have r := own_152 n v hv hn (fun k hk hk' => if w : k = 1 then by rw [w]; exact z else h k (by omega) hk')
      constructor
      · unfold s0_130; rw [g]
        exact ⟨fun _ => ⟨own_nat_in (k := 1) (by omega) (by omega), fun _ => r.1, fun z' => absurd z z'⟩, fun w => absurd q' w⟩
      · unfold f0_130; rw [if_pos q', g, if_pos z]; exact r.2
    · have e := own_first v (by omega) (j := 1) (by omega) (fun k hk => h k hk (by omega)) z
      have r := own_243 n v (Int32.ofNat n - (1 : Int32)) hv hn (by rw [e, hv]; rw [show (Int32.ofNat n - (1 : Int32)) = Int32.ofNat (n - 1) from own_nat_sub (b := 1) (by omega) (by omega)])
      constructor
      · unfold s0_130; rw [g]
        exact ⟨fun _ => ⟨own_nat_in (k := 1) (by omega) (by omega), fun z' => absurd z' z, fun _ => r.1⟩, fun w => absurd q' w⟩
      · unfold f0_130; rw [if_pos q', g, if_neg z]; exact r.2
  · have q' : ¬ (1 : Int32) < Int32.ofNat n := fun w => q ((own_nat_lt (i := 1) (by omega) (by omega)).mp w)
    have r := own_152 n v hv hn (fun k hk hk' => h k (by omega) hk')
    constructor
    · unfold s0_130
      exact ⟨fun w => absurd w q', fun _ => r.1⟩
    · unfold f0_130; rw [if_neg q']; exact r.2
theorem own_111 (n : Nat) (v : List Int32) (hv : v.length = n) (hn : n ≤ 6) (h : ∀ k, k < 0 → k < n → v.getD k 0 = 0) : s0_111 (Int32.ofNat n) v ∧ f0_111 (Int32.ofNat n) v = 1 := by
  have g : own_get v (0 : Int32) = v.getD 0 0 := own_nat_get v (k := 0) (by omega)
  by_cases q : 0 < n
  · have q' : (0 : Int32) < Int32.ofNat n := (own_nat_lt (i := 0) (by omega) (by omega)).mpr q
    by_cases z : v.getD 0 0 = 0
    · have r := own_130 n v hv hn (fun k hk hk' => if w : k = 0 then by rw [w]; exact z else h k (by omega) hk')
      constructor
      · unfold s0_111; rw [g]
        exact ⟨fun _ => ⟨own_nat_in (k := 0) (by omega) (by omega), fun _ => r.1, fun z' => absurd z z'⟩, fun w => absurd q' w⟩
      · unfold f0_111; rw [if_pos q', g, if_pos z]; exact r.2
    · have e := own_first v (by omega) (j := 0) (by omega) (fun k hk => h k hk (by omega)) z
      have r := own_243 n v (Int32.ofNat n) hv hn (by rw [e, hv]; rfl)
      constructor
      · unfold s0_111; rw [g]
        exact ⟨fun _ => ⟨own_nat_in (k := 0) (by omega) (by omega), fun z' => absurd z' z, fun _ => r.1⟩, fun w => absurd q' w⟩
      · unfold f0_111; rw [if_pos q', g, if_neg z]; exact r.2
  · have q' : ¬ (0 : Int32) < Int32.ofNat n := fun w => q ((own_nat_lt (i := 0) (by omega) (by omega)).mp w)
    have r := own_130 n v hv hn (fun k hk hk' => h k (by omega) hk')
    constructor
    · unfold s0_111
      exact ⟨fun w => absurd w q', fun _ => r.1⟩
    · unfold f0_111; rw [if_neg q']; exact r.2
theorem own_set_len (v : List Int32) (j x : Int32) : (own_set v j x).length = v.length := by simp [own_set]
theorem own_95 (x1 : Int64) (x3 : Int32) (n : Nat) (v : List Int32) (hv : v.length = n) (hn : n ≤ 6) : s0_95 x1 x3 (Int32.ofNat n) v ∧ f0_95 x1 x3 (Int32.ofNat n) v = 1 := by
  by_cases q : 5 < n
  · have q' : (5 : Int32) < Int32.ofNat n := (own_nat_lt (i := 5) (by omega) (by omega)).mpr q
    have r := own_111 n (own_set v (5 : Int32) (own_i2b (f3_0 x1 x3 (5 : Int32)))) (by rw [own_set_len]; exact hv) hn (fun k hk _ => absurd hk (Nat.not_lt_zero k))
    constructor
    · exact ⟨fun _ => ⟨own_nat_in (k := 5) (by omega) (by omega), r.1⟩, fun w => absurd q' w⟩
    · unfold f0_95; rw [if_pos q']; exact r.2
  · have q' : ¬ (5 : Int32) < Int32.ofNat n := fun w => q ((own_nat_lt (i := 5) (by omega) (by omega)).mp w)
    have r := own_111 n v hv hn (fun k hk _ => absurd hk (Nat.not_lt_zero k))
    constructor
    · exact ⟨fun w => absurd w q', fun _ => r.1⟩
    · unfold f0_95; rw [if_neg q']; exact r.2
theorem own_79 (x1 : Int64) (x3 : Int32) (n : Nat) (v : List Int32) (hv : v.length = n) (hn : n ≤ 6) : s0_79 x1 x3 (Int32.ofNat n) v ∧ f0_79 x1 x3 (Int32.ofNat n) v = 1 := by
  by_cases q : 4 < n
  · have q' : (4 : Int32) < Int32.ofNat n := (own_nat_lt (i := 4) (by omega) (by omega)).mpr q
    have r := own_95 x1 x3 n (own_set v (4 : Int32) (own_i2b (f3_0 x1 x3 (4 : Int32)))) (by rw [own_set_len]; exact hv) hn
    constructor
    · exact ⟨fun _ => ⟨own_nat_in (k := 4) (by omega) (by omega), r.1⟩, fun w => absurd q' w⟩
    · unfold f0_79; rw [if_pos q']; exact r.2
  · have q' : ¬ (4 : Int32) < Int32.ofNat n := fun w => q ((own_nat_lt (i := 4) (by omega) (by omega)).mp w)
    have r := own_95 x1 x3 n v hv hn
    constructor
    · exact ⟨fun w => absurd w q', fun _ => r.1⟩
    · unfold f0_79; rw [if_neg q']; exact r.2
theorem own_63 (x1 : Int64) (x3 : Int32) (n : Nat) (v : List Int32) (hv : v.length = n) (hn : n ≤ 6) : s0_63 x1 x3 (Int32.ofNat n) v ∧ f0_63 x1 x3 (Int32.ofNat n) v = 1 := by
  by_cases q : 3 < n
  · have q' : (3 : Int32) < Int32.ofNat n := (own_nat_lt (i := 3) (by omega) (by omega)).mpr q
    have r := own_79 x1 x3 n (own_set v (3 : Int32) (own_i2b (f3_0 x1 x3 (3 : Int32)))) (by rw [own_set_len]; exact hv) hn
    constructor
    · exact ⟨fun _ => ⟨own_nat_in (k := 3) (by omega) (by omega), r.1⟩, fun w => absurd q' w⟩
    · unfold f0_63; rw [if_pos q']; exact r.2
  · have q' : ¬ (3 : Int32) < Int32.ofNat n := fun w => q ((own_nat_lt (i := 3) (by omega) (by omega)).mp w)
    have r := own_79 x1 x3 n v hv hn
    constructor
    · exact ⟨fun w => absurd w q', fun _ => r.1⟩
    · unfold f0_63; rw [if_neg q']; exact r.2
theorem own_47 (x1 : Int64) (x3 : Int32) (n : Nat) (v : List Int32) (hv : v.length = n) (hn : n ≤ 6) : s0_47 x1 x3 (Int32.ofNat n) v ∧ f0_47 x1 x3 (Int32.ofNat n) v = 1 := by
  by_cases q : 2 < n
  · have q' : (2 : Int32) < Int32.ofNat n := (own_nat_lt (i := 2) (by omega) (by omega)).mpr q
    have r := own_63 x1 x3 n (own_set v (2 : Int32) (own_i2b (f3_0 x1 x3 (2 : Int32)))) (by rw [own_set_len]; exact hv) hn
    constructor
    · exact ⟨fun _ => ⟨own_nat_in (k := 2) (by omega) (by omega), r.1⟩, fun w => absurd q' w⟩
    · unfold f0_47; rw [if_pos q']; exact r.2
  · have q' : ¬ (2 : Int32) < Int32.ofNat n := fun w => q ((own_nat_lt (i := 2) (by omega) (by omega)).mp w)
    have r := own_63 x1 x3 n v hv hn
    constructor
    · exact ⟨fun w => absurd w q', fun _ => r.1⟩
    · unfold f0_47; rw [if_neg q']; exact r.2
theorem own_31 (x1 : Int64) (x3 : Int32) (n : Nat) (v : List Int32) (hv : v.length = n) (hn : n ≤ 6) : s0_31 x1 x3 (Int32.ofNat n) v ∧ f0_31 x1 x3 (Int32.ofNat n) v = 1 := by
  by_cases q : 1 < n
  · have q' : (1 : Int32) < Int32.ofNat n := (own_nat_lt (i := 1) (by omega) (by omega)).mpr q
    have r := own_47 x1 x3 n (own_set v (1 : Int32) (own_i2b (f3_0 x1 x3 (1 : Int32)))) (by rw [own_set_len]; exact hv) hn
    constructor
    · exact ⟨fun _ => ⟨own_nat_in (k := 1) (by omega) (by omega), r.1⟩, fun w => absurd q' w⟩
    · unfold f0_31; rw [if_pos q']; exact r.2
  · have q' : ¬ (1 : Int32) < Int32.ofNat n := fun w => q ((own_nat_lt (i := 1) (by omega) (by omega)).mp w)
    have r := own_47 x1 x3 n v hv hn
    constructor
    · exact ⟨fun w => absurd w q', fun _ => r.1⟩
    · unfold f0_31; rw [if_neg q']; exact r.2
theorem own_both (p0 : Int32) (q1 : Int64) (p2 : Int32) : s0_0 p0 q1 p2 ∧ f0_0 p0 q1 p2 = 1 := by
  have m := own_max p0
  have e := own_emod (x := p0 &&& 2147483647) (y := 7) (by omega)
  rw [show (7 : Int32).toInt = 7 from rfl] at e
  obtain ⟨n, hn, hi, -⟩ := own_nat_of (x := own_rem (p0 &&& 2147483647) 7) (by omega)
  have h6 : n ≤ 6 := by omega
  unfold s0_0 f0_0
  rw [hn]
  have l : (f1_0 (Int32.ofNat n)).length = n := by
    rcases (by omega : n = 0 ∨ n = 1 ∨ n = 2 ∨ n = 3 ∨ n = 4 ∨ n = 5 ∨ n = 6) with rfl | rfl | rfl | rfl | rfl | rfl | rfl <;> rfl
  by_cases q : 0 < n
  · have q' : (0 : Int32) < Int32.ofNat n := (own_nat_lt (i := 0) (by omega) (by omega)).mpr q
    have r := own_31 q1 p2 n (own_set (f1_0 (Int32.ofNat n)) (0 : Int32) (own_i2b (f3_0 q1 p2 (0 : Int32)))) (by rw [own_set_len]; exact l) h6
    rw [if_pos q']
    exact ⟨⟨fun _ => ⟨by rw [l]; exact own_nat_in (k := 0) q (by omega), r.1⟩, fun w => absurd q' w⟩, r.2⟩
  · have q' : ¬ (0 : Int32) < Int32.ofNat n := fun w => q ((own_nat_lt (i := 0) (by omega) (by omega)).mp w)
    have r := own_31 q1 p2 n (f1_0 (Int32.ofNat n)) l h6
    rw [if_neg q']
    exact ⟨⟨fun w => absurd w q', fun _ => r.1⟩, r.2⟩
theorem own_law (p0 : Int32) (q1 : Int64) (p2 : Int32) : f0_0 p0 q1 p2 = 1 := (own_both p0 q1 p2).2
theorem own_safe (p0 : Int32) (q1 : Int64) (p2 : Int32) : s0_0 p0 q1 p2 := (own_both p0 q1 p2).1

set_option maxRecDepth 65536 in
set_option maxHeartbeats 40000000 in
theorem comes_1 {Post : Tables → Env → Array Value → State → Outcome → State → Prop} (hpost : ∀ tb e args s v u, (limb_1_1.after args s (.returned v) u = true ∧ limb_1_2.after args s (.returned v) u = true) → FrameEnd s (.returned v) u (Jvm.fieldLocs frame_1_writes args s ++ Jvm.arrayLocs frame_1_arrays args s ++ Jvm.staticLocs frame_1_statics s) 16 128 → Post tb e args s (.returned v) u) :
    ArmFor flags0 classFile x code maxLocals ret World_1 tables_1 room_1 Calls_1 rest_1 Pre_1 Post := by
  intro l hfl _ _ p e ha hc hk s m args below hf hA hF happ hP
  obtain ⟨hcalls, hrest, hpre⟩ := hP
  obtain ⟨-, -, -, hnamed, -, -, -, hat⟩ := (Spec.applies_iff hf).mp happ
  obtain ⟨hg, hn⟩ := and_e (Cond.before_iff.mp (show (Jvm.Cond.and given_1 narrow_1).before args s = true from hpre))
  obtain ⟨g1a, g1b⟩ := and_e hg
  obtain ⟨g2a, g2b⟩ := and_e g1b
  obtain ⟨g3a, g3b⟩ := and_e g2b
  obtain ⟨w0, w1, w2, rfl⟩ : ∃ w0 w1 w2 : Value, args = #[w0, w1, w2] := by
    have hs : args.size = 3 := by simpa [Cond.value, given_1] using g1a
    obtain ⟨L⟩ := args
    match L, hs with
    | [w0, w1, w2], _ => exact ⟨w0, w1, w2, rfl⟩
  have hw := fun d (hd : d ∈ tables_1) => atoms_spec (ws := Jvm.Cond.code x code maxLocals ret :: tables_1) hat d (List.mem_cons_of_mem _ hd)
  obtain ⟨i0, ei0⟩ := is_v g2a
  obtain rfl : w0 = (.int i0) := Option.some.inj ei0
  obtain ⟨i1, ei1⟩ := isL_v g3a
  obtain rfl : w1 = (.long i1) := Option.some.inj ei1
  obtain ⟨i2, ei2⟩ := is_v g3b
  obtain rfl : w2 = (.int i2) := Option.some.inj ei2
  obtain ⟨n, o, h1, h2, h3, v, L, rfl, ⟨rfl, rfl⟩, hq⟩ := rm0 l s _ hw tables_1 i0 i1 i2 s.heap (own_safe i0 i1 i2) p e ha hc hk s m _ below hf ((Spec.applies_iff_loose hf).mp happ).1 ⟨rfl, State.Warmed39.refl s, rfl⟩ trivial
  have hv1 := own_law i0 i1 i2
  refine ⟨n, _, h1, h2, h3, hpost _ _ _ _ _ _ ⟨Cond.after_iff.mpr rfl, Cond.after_iff.mpr (eq_i res_at (Term.int_eval (1)) (by rw [hv1]) rfl)⟩ ⟨hq.1, hq.2.1, (hq.2.2.sift fun y hy => nomatch hy).mono (by decide) (by decide)⟩⟩
theorem main_1_1 : Claimed_1_1 := comes_1 fun _ _ _ _ _ _ h hF => ⟨h.1, hF⟩
theorem main_1_2 : Claimed_1_2 := comes_1 fun _ _ _ _ _ _ h hF => ⟨h.2, hF⟩
end Jvm.Pilot.@@N@@
namespace Jvm.Pilot.@@N@@
open Jvm Jvm.ClassFile Sem Op Lib Jvm.Free Jvm.Stand Jvm.Pilot.@@N@@.Jvm.D
/-! MADE BY PROGRAM (witnessworld.py) out of the Statement's table words and the real class files: 9 classes; the members and pool entries that the words name. The judged class is class 1, her method 3. -/
namespace start1
open Jvm.ClassFile
def u (s : String) : CpInfo := .utf8 (stringToUtf16 s)
/-- a pool by its gaps: so many unusable entries, then the entry; so many at the end -/
def gap : Nat → List CpInfo → List CpInfo
  | 0, r => r
  | n + 1, r => .unusable :: gap n r
def poolList (es : List (Nat × CpInfo)) (last : Nat) : List CpInfo := es.foldr (fun e r => gap e.1 (e.2 :: r)) (gap last [])
def pool (es : List (Nat × CpInfo)) (last : Nat) : Array CpInfo := ⟨poolList es last⟩
def fileOf (pool : Array CpInfo) (this : Nat) (attrs : Array Attribute := #[]) (ms : Array MethodInfo := #[]) (fl : Nat := 33) (sup : Nat := 0) (ifs : Array Nat := #[]) (fds : Array FieldInfo := #[]) : ClassFile where
  minorVersion := 0
  majorVersion := 65
  constantPool := pool
  accessFlags := fl
  thisClass := this
  superClass := sup
  interfaces := ifs
  fields := fds
  methods := ms
  attributes := attrs
def plain (name : String) (sup : Option ClassId) : Class where
  name := name
  kind := .ordinary
  loader := none
  accessFlags := 33
  super := sup
  interfaces := #[]
  cf := none
  fields := #[]
  methods := #[]
  instanceTypes := #[]
  staticTypes := #[]
  resolved := #[]
  callSites := []
  init := .initialized
  statics := none
  mirror := none

def pool0 : Array CpInfo := pool [(5, u "<init>"), (0, u "()V"), (1, .class_ 10), (1, u "java/lang/Object")] 113

def k0m0 : Method := { name := "<init>", desc := "()V", sig := { parameters := [], returnType := none }, accessFlags := 1, code := none }
/-- java/lang/Object -/
def k0 : Class := { plain "java/lang/Object" none with
  accessFlags := 33
  interfaces := #[]
  cf := some (fileOf pool0 8 #[] #[{ accessFlags := 1, nameIndex := 5, descriptorIndex := 6, attributes := #[] }] 33 0 #[] #[])
  fields := #[]
  methods := #[k0m0]
  instanceTypes := #[]
  staticTypes := #[]
  resolved := Array.replicate 124 none
  statics := none }

def pool1 : Array CpInfo := pool [(2, .class_ 4), (1, u "java/lang/Object"), (0, u "<init>"), (0, u "()V"), (0, .integer 2147483647), (0, .methodref 9 10), (0, .class_ 11), (0, .nameAndType 12 13), (0, u "com/example/plumbline/plumbline/core/BignumsSignificantLengthPinLaw"), (0, u "make"), (0, u "(I)[B"), (0, .methodref 9 15), (0, .nameAndType 16 17), (0, u "pick"), (0, u "(JII)B"), (0, .methodref 19 20), (0, .class_ 21), (0, .nameAndType 22 23), (0, u "com/example/plumbline/plumbline/core/Bignums"), (0, u "significantLength"), (0, u "([B)I"), (3, u "law"), (0, u "(IJI)Z")] 4

def k1m0 : Method := { name := "<init>", desc := "()V", sig := { parameters := [], returnType := none }, accessFlags := 1, code := none }
def k1c1 : Code := { maxStack := 2, maxLocals := 1, code := method_2_code, exceptionTable := #[], attributes := #[] }
def k1m1 : Method := { name := "make", desc := "(I)[B", sig := { parameters := [.int], returnType := some (.array .byte) }, accessFlags := 10, code := some k1c1 }
def k1c2 : Code := { maxStack := 4, maxLocals := 4, code := method_3_code, exceptionTable := #[], attributes := #[] }
def k1m2 : Method := { name := "pick", desc := "(JII)B", sig := { parameters := [.long, .int, .int], returnType := some .byte }, accessFlags := 10, code := some k1c2 }
def k1c3 : Code := { maxStack := 6, maxLocals := 8, code := code, exceptionTable := #[], attributes := #[] }
def k1m3 : Method := { name := "law", desc := "(IJI)Z", sig := { parameters := [.int, .long, .int], returnType := some .boolean }, accessFlags := 9, code := some k1c3 }
/-- com/example/plumbline/plumbline/core/BignumsSignificantLengthPinLaw -/
def k1 : Class := { plain "com/example/plumbline/plumbline/core/BignumsSignificantLengthPinLaw" (some 0) with
  accessFlags := 49
  interfaces := #[]
  cf := some (fileOf pool1 9 #[] #[{ accessFlags := 1, nameIndex := 5, descriptorIndex := 6, attributes := #[] }, { accessFlags := 10, nameIndex := 12, descriptorIndex := 13, attributes := #[] }, { accessFlags := 10, nameIndex := 16, descriptorIndex := 17, attributes := #[] }, { accessFlags := 9, nameIndex := 27, descriptorIndex := 28, attributes := #[] }] 49 2 #[] #[])
  fields := #[]
  methods := #[k1m0, k1m1, k1m2, k1m3]
  instanceTypes := #[]
  staticTypes := #[]
  resolved := Array.replicate 33 none
  statics := none }

def pool2 : Array CpInfo := pool [(2, .class_ 4), (1, u "java/lang/Object"), (0, u "<init>"), (0, u "()V"), (5, .class_ 14), (1, u "com/example/plumbline/plumbline/core/Bignums"), (0, u "significantLength"), (0, u "([B)I"), (98, u "MAX_VALUE_BYTES"), (0, u "I")] 35

def k2m0 : Method := { name := "<init>", desc := "()V", sig := { parameters := [], returnType := none }, accessFlags := 2, code := none }
def k2c1 : Code := { maxStack := 2, maxLocals := 2, code := prog_22_method_5_code, exceptionTable := #[], attributes := #[] }
def k2m1 : Method := { name := "significantLength", desc := "([B)I", sig := { parameters := [(.array .byte)], returnType := some .int }, accessFlags := 8, code := some k2c1 }
/-- com/example/plumbline/plumbline/core/Bignums -/
def k2 : Class := { plain "com/example/plumbline/plumbline/core/Bignums" (some 0) with
  accessFlags := 48
  interfaces := #[]
  cf := some (fileOf pool2 12 #[] #[{ accessFlags := 2, nameIndex := 5, descriptorIndex := 6, attributes := #[] }, { accessFlags := 8, nameIndex := 15, descriptorIndex := 16, attributes := #[] }] 48 2 #[] #[{ accessFlags := 24, nameIndex := 115, descriptorIndex := 116, attributes := #[] }])
  fields := #[{ name := "MAX_VALUE_BYTES", type := .int, accessFlags := 24, slot := 0, constantValue := 0 }]
  methods := #[k2m0, k2m1]
  instanceTypes := #[]
  staticTypes := #[.int]
  resolved := Array.replicate 152 none
  statics := none }

def pool3 : Array CpInfo := pool [(1, u "java/lang/Cloneable"), (0, .class_ 1), (0, u "java/lang/Object"), (0, .class_ 3)] 3

/-- java/lang/Cloneable -/
def k3 : Class := { plain "java/lang/Cloneable" (some 0) with
  accessFlags := 1537
  interfaces := #[]
  cf := some (fileOf pool3 2 #[] #[] 1537 4 #[] #[])
  fields := #[]
  methods := #[]
  instanceTypes := #[]
  staticTypes := #[]
  resolved := Array.replicate 8 none
  statics := none }

def pool4 : Array CpInfo := pool [(1, u "java/io/Serializable"), (0, .class_ 1), (0, u "java/lang/Object"), (0, .class_ 3)] 3

/-- java/io/Serializable -/
def k4 : Class := { plain "java/io/Serializable" (some 0) with
  accessFlags := 1537
  interfaces := #[]
  cf := some (fileOf pool4 2 #[] #[] 1537 4 #[] #[])
  fields := #[]
  methods := #[]
  instanceTypes := #[]
  staticTypes := #[]
  resolved := Array.replicate 8 none
  statics := none }

/-- the primitive byte -/
def k5 : Class := { plain "byte" none with kind := .primitive 'B', accessFlags := 0x411 }
/-- [B -/
def k6 : Class := { plain "[B" (some 0) with kind := .array 5 .byte, interfaces := #[3, 4], accessFlags := 1041 }

/-- the primitive int -/
def k7 : Class := { plain "int" none with kind := .primitive 'I', accessFlags := 0x411 }
/-- [I -/
def k8 : Class := { plain "[I" (some 0) with kind := .array 7 .int, interfaces := #[3, 4], accessFlags := 1041 }

def heap : Heap := #[]
def classes : Array Class := #[k0, k1, k2, k3, k4, k5, k6, k7, k8]
def interned : List (Array UInt16 × Addr) := []
def slotsUsed : Nat := 0
def theMethod : MethodId := ⟨1, 3⟩
def args0 : Array Value := #[.int 5, .long 5, .int 5]
def aboutOver (below : List Frame) : State where
  vm := { classes := classes, interned := interned.toArray }
  heap := heap
  slotsUsed := slotsUsed
  threads := #[{ frames := .invoking theMethod args0 :: below }]
def below0 : List Frame := [.native { method := ⟨0, 0⟩, args := #[] }]
def about1 : State := aboutOver below0
def p0 : Program := .bare "" "" ""
def e0 : Env := launch0.env 0 0 0
theorem w_frames : about1.frames = Frame.invoking theMethod args0 :: below0 := rfl
set_option maxRecDepth 65536 in
theorem w_args : argsFit about1.vm theMethod args0 = true := by decide +kernel
set_option maxRecDepth 65536 in
theorem w_heap : heapFits about1 = true := by decide +kernel
set_option maxRecDepth 65536 in
theorem w_runnable : about1.curStatus? = some .runnable := by decide +kernel
set_option maxRecDepth 65536 in
theorem w_alone : about1.alone = true := by decide +kernel
set_option maxRecDepth 65536 in
theorem w_named : about1.methodNamed? x = some theMethod := by decide +kernel
set_option maxRecDepth 65536 in
theorem w_hears : about1.hears theMethod below0 = true := by decide +kernel
set_option maxRecDepth 65536 in
theorem w_ripe : about1.ripe theMethod args0 below0 = true := by decide +kernel
theorem w_running : about1.status = .running := rfl
set_option maxRecDepth 65536 in
theorem w_room : about1.hasRoom e0.platform room_1 = true :=
  launch0.hasRoom_least _ room_1 (by decide +kernel) (by decide +kernel) (by decide +kernel) (by decide +kernel) (by decide +kernel) (by decide +kernel)
theorem allAtoms_all (ts : List Jvm.Cond) (a : Array Jvm.Value) (st : Jvm.State) : (allAtoms ts).before a st = ts.all (fun c => c.before a st) := by
  induction ts with
  | nil => rfl
  | cons c t ih =>
    show (Jvm.Cond.and c (allAtoms t)).before a st = _
    rw [Jvm.Cond.before_and, ih, List.all_cons]
def words1 : List Jvm.Cond := Jvm.Cond.code x code maxLocals ret :: tables_1
/-- a 'code' word, met by the world's own term for the bytes: nothing is compared byte by byte -/
theorem code_word {y : MethodName} {bytes : ByteArray} {mx : Nat} {rt : Option FieldType} {a : Array Value} {s : State} {m : MethodId} {meth : Method} {c : Code} (h1 : s.methodNamed? y = some m) (h2 : s.vm.method? m = some meth) (h3 : meth.code = some c) (h4 : c.code = bytes)
    (h5 : (c.maxLocals == mx && c.exceptionTable.isEmpty && decide (c.maxStack ≤ mostOperands) && decide (meth.sig.returnType = rt) && !meth.locks && decide (parseMethodDescriptor y.desc = some meth.sig)) = true) : (Jvm.Cond.code y bytes mx rt).before a s = true := by
  simp only [Bool.and_eq_true, beq_iff_eq, Bool.not_eq_true', decide_eq_true_eq] at h5
  obtain ⟨⟨⟨⟨⟨g1, g2⟩, g3⟩, g4⟩, g5⟩, g6⟩ := h5
  simp [Cond.before, Cond.holds, Cond.value, h1, h2, h3, h4, g1, g2, g3, g4, g5, g6]
def isCode : Jvm.Cond → Bool
  | .code _ _ _ _ => true
  | _ => false
theorem all_split {L : List Jvm.Cond} {P : Jvm.Cond → Bool} (h1 : L.all (fun c => isCode c || P c) = true) (h2 : ∀ c ∈ L.filter isCode, P c = true) : L.all P = true := by
  refine List.all_eq_true.mpr fun c hc => ?_
  have h := List.all_eq_true.mp h1 c hc
  rcases Bool.eq_false_or_eq_true (isCode c) with hi | hi
  · exact h2 c (List.mem_filter.mpr ⟨hc, hi⟩)
  · simpa [hi] using h
set_option maxRecDepth 65536 in
theorem w_c0 : (Jvm.Cond.code x code maxLocals ret).before args0 about1 = true := code_word (m := ⟨1, 3⟩) (meth := k1m3) (c := k1c3) (by decide +kernel) rfl rfl rfl (by decide +kernel)
set_option maxRecDepth 65536 in
theorem w_c1 : (Jvm.Cond.code ({ cls := "com/example/plumbline/plumbline/core/BignumsSignificantLengthPinLaw", name := "make", desc := "(I)[B" } : Jvm.MethodName) method_2_code (1 : Nat) (Option.some (Jvm.ClassFile.FieldType.array Jvm.ClassFile.FieldType.byte))).before args0 about1 = true := code_word (m := ⟨1, 1⟩) (meth := k1m1) (c := k1c1) (by decide +kernel) rfl rfl rfl (by decide +kernel)
set_option maxRecDepth 65536 in
theorem w_c2 : (Jvm.Cond.code ({ cls := "com/example/plumbline/plumbline/core/Bignums", name := "significantLength", desc := "([B)I" } : Jvm.MethodName) prog_22_method_5_code (2 : Nat) (Option.some Jvm.ClassFile.FieldType.int)).before args0 about1 = true := code_word (m := ⟨2, 1⟩) (meth := k2m1) (c := k2c1) (by decide +kernel) rfl rfl rfl (by decide +kernel)
set_option maxRecDepth 65536 in
theorem w_c3 : (Jvm.Cond.code ({ cls := "com/example/plumbline/plumbline/core/BignumsSignificantLengthPinLaw", name := "pick", desc := "(JII)B" } : Jvm.MethodName) method_3_code (4 : Nat) (Option.some Jvm.ClassFile.FieldType.byte)).before args0 about1 = true := code_word (m := ⟨1, 2⟩) (meth := k1m2) (c := k1c2) (by decide +kernel) rfl rfl rfl (by decide +kernel)
def codes1 : List Jvm.Cond := [Jvm.Cond.code x code maxLocals ret, Jvm.Cond.code ({ cls := "com/example/plumbline/plumbline/core/BignumsSignificantLengthPinLaw", name := "make", desc := "(I)[B" } : Jvm.MethodName) method_2_code (1 : Nat) (Option.some (Jvm.ClassFile.FieldType.array Jvm.ClassFile.FieldType.byte)), Jvm.Cond.code ({ cls := "com/example/plumbline/plumbline/core/Bignums", name := "significantLength", desc := "([B)I" } : Jvm.MethodName) prog_22_method_5_code (2 : Nat) (Option.some Jvm.ClassFile.FieldType.int), Jvm.Cond.code ({ cls := "com/example/plumbline/plumbline/core/BignumsSignificantLengthPinLaw", name := "pick", desc := "(JII)B" } : Jvm.MethodName) method_3_code (4 : Nat) (Option.some Jvm.ClassFile.FieldType.byte)]
set_option maxRecDepth 65536 in
theorem codes_eq : words1.filter isCode = codes1 := rfl
theorem w_codes : ∀ c ∈ words1.filter isCode, c.before args0 about1 = true := by
  rw [codes_eq]
  intro c hc
  simp only [codes1, List.mem_cons, List.not_mem_nil, or_false] at hc
  rcases hc with rfl | rfl | rfl | rfl
  · exact w_c0
  · exact w_c1
  · exact w_c2
  · exact w_c3
set_option maxRecDepth 65536 in
theorem w_t1 : words1.all (fun c => isCode c || c.before args0 about1) = true := by decide +kernel
theorem w_tables : (allAtoms (Jvm.Cond.code x code maxLocals ret :: tables_1)).before args0 about1 = true := by
  rw [allAtoms_all]
  show words1.all (fun c => c.before args0 about1) = true
  refine all_split ?_ w_codes
  rw [w_t1]
set_option maxRecDepth 65536 in
theorem w_case : (Jvm.Cond.and given_1 narrow_1).before args0 about1 = true := by decide +kernel
theorem w_applies : (headSpec (Jvm.Cond.code x code maxLocals ret :: tables_1) room_1).applies x e0.platform about1 = true :=
  (Spec.applies_iff w_frames).mpr ⟨w_running, w_runnable, w_alone, w_named, w_hears, w_ripe, w_room, w_tables⟩
theorem atStart : AtStart classFile x code maxLocals ret World_1 tables_1 room_1 Calls_1 rest_1 Pre_1 launch0 p0 e0 about1 theMethod args0 below0 :=
  ⟨lists_1, trivial, launch0.admits_env _ _ _, launch0.least_env, fairChoices_fair.cas, fairChoices_fair.clock, w_frames, w_args, w_heap, w_applies, trivial, trivial, w_case⟩
end start1
theorem witness_1 : WitnessClaimed_1 := ⟨start1.p0, start1.e0, start1.about1, start1.theMethod, start1.args0, start1.below0, start1.atStart⟩
end Jvm.Pilot.@@N@@
