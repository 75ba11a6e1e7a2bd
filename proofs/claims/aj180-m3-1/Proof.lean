import JvmDerived
import JvmDerived.Pilot.@@N@@Statement
import JvmDerived.Pilot.@@N@@Code
set_option linter.unusedVariables false
set_option linter.unusedSimpArgs false
@@BLOCK:NumsL.lean.txt@@
namespace Jvm.RoadKit
open Sem ClassFile Op Lib Jvm.Stand Jvm.Free Jvm.LawKit
section New
variable {p : Program} {l : Launch} {e : Env} {R : Room} {s : State} {m : MethodId} {args : Array Value} {below : List Frame} {meth : Method} {c : Code} {T : State} {locs : List Loc} {cells slots : Nat}
theorem retI (X : Stand p l e R s m args below meth c T locs cells slots) (hx : p.tables.exec = Jvm.exec) {pc : Nat} {Ls : Array Slot} {z : Int32} {rest : List Value} (hret : meth.sig.returnType = some .int) (hd : decode c.code pc = .ok (.ireturn, 1)) {fs : List Frame}
    (hl : ∀ (f : JFrame) (acts : List Action), f.method = m → f.locked = none → f.entered = [] → (doReturn e (T.setTop f) acts (some (.int z))).1 = T.setFrames fs) : Steps p.tables e below (T.setTop (mkF m pc Ls (.int z :: rest))) (T.setFrames fs) := by
  have hm' : T.vm.method? m = some meth := X.method'
  have hn : narrow .int (.int z) = .int z := rfl
  show Steps p.tables e below (T.setTop { method := m, pc := pc, locals := Ls, stack := _ :: rest, locked := none }) _
  jvm_step X.here [X.here.top, hx, hd, hm', hret, hn]
  first | (intro acts; rw [hl _ acts rfl rfl rfl]) | rw [hl _ _ rfl rfl rfl]
  exact Steps.refl _
end New
end Jvm.RoadKit
namespace Jvm.Pilot.@@N@@
open Jvm Jvm.ClassFile Sem Op Lib Jvm.Free Jvm.Stand Jvm.LawKit Jvm.RoadKit Bundle Jvm.Pilot.@@N@@.Jvm.D
/-! OWN KIT: a run that comes to an end, one law an instruction, arrays as lists (written once, pasted by wip/gen/lawgen.py) -/
section OwnKit
variable {p : Program} {l : Launch} {e : Env} {R : Room} {s : State} {m : MethodId} {args : Array Value} {below : List Frame} {meth : Method} {c : Code} {T T' : State} {locs : List Loc} {cells slots : Nat} {Z : State} {a0 : Array Value} {h h' : Heap}
variable {Q : Outcome → State → Prop} {K : Option Value → Heap → List Loc → Prop} {cc ss : Nat}
variable {pc pc' pc1 pc2 : Nat} {Ls l' : Array Slot} {rest : List Value} {x y : Int32} {u w : Int64}
/-- from T, with g on top, the run comes to an end of which Q holds -/
def own_Go (p : Program) (e : Env) (below : List Frame) (Q : Outcome → State → Prop) (T : State) (g : JFrame) : Prop :=
  ∃ s₂ o, Steps p.tables e below (T.setTop g) s₂ ∧ s₂.status = .running ∧ Ended s₂ below o ∧ Q o s₂
/-- what a body's end says: it returned, K holds of the value, the heap and the old places written -/
def own_Q (s : State) (K : Option Value → Heap → List Loc → Prop) (cc ss : Nat) : Outcome → State → Prop := fun o t => ∃ v L, o = .returned v ∧ K v t.heap L ∧ FrameEnd s o t L cc ss
/-- what stands fast in one body -/
def own_Cx (p : Program) (s : State) (m : MethodId) (meth : Method) (c : Code) (Z : State) (a0 : Array Value) (bytes : ByteArray) (ml : Nat) (own : String) (rt : Option FieldType) (nm : String) : Prop :=
  p.tables.exec = Jvm.exec ∧ Z.Warmed39 s.vm ∧ (∀ d ∈ tables_1, d.before a0 Z = true) ∧ c.code = bytes ∧ c.maxLocals = ml ∧ s.vm.findClass own = some m.cls ∧ meth.sig.returnType = rt ∧ meth.locks = false ∧ meth.name = nm
theorem own_go {g g' : JFrame} (st : ∀ t, Steps p.tables e below (T'.setTop g') t → Steps p.tables e below (T.setTop g) t) (k : own_Go p e below Q T' g') : own_Go p e below Q T g := by
  obtain ⟨s₂, o, h1, h2⟩ := k
  exact ⟨s₂, o, st _ h1, h2⟩
theorem o_iloadN (X : Stand p l e R s m args below meth c T locs cells slots) (hx : p.tables.exec = Jvm.exec) {k : Fin 4} {v : Int32} (hd : decode c.code pc = .ok (.iload_n k, 1)) (hl : Ls[k.val]? = some (.val (.int v))) (hp : pc + 1 = pc') (q : own_Go p e below Q T (mkF m pc' Ls (.int v :: rest))) : own_Go p e below Q T (mkF m pc Ls rest) := by
  subst hp; exact own_go (fun t k' => XS.iloadN X.here hx rfl hd hl k') q
theorem o_iload (X : Stand p l e R s m args below meth c T locs cells slots) (hx : p.tables.exec = Jvm.exec) {k : Nat} {v : Int32} (hd : decode c.code pc = .ok (.iload k, 2)) (hl : Ls[k]? = some (.val (.int v))) (hp : pc + 2 = pc') (q : own_Go p e below Q T (mkF m pc' Ls (.int v :: rest))) : own_Go p e below Q T (mkF m pc Ls rest) := by
  subst hp; exact own_go (fun t k' => XS.iload X.here hx rfl hd hl k') q
theorem o_lloadN (X : Stand p l e R s m args below meth c T locs cells slots) (hx : p.tables.exec = Jvm.exec) {k : Fin 4} {v : Int64} (hd : decode c.code pc = .ok (.lload_n k, 1)) (hl : Ls[k.val]? = some (.val (.long v))) (hp : pc + 1 = pc') (q : own_Go p e below Q T (mkF m pc' Ls (.long v :: rest))) : own_Go p e below Q T (mkF m pc Ls rest) := by
  subst hp; exact own_go (fun t k' => XS.lloadN X.here hx rfl hd hl k') q
theorem o_lload (X : Stand p l e R s m args below meth c T locs cells slots) (hx : p.tables.exec = Jvm.exec) {k : Nat} {v : Int64} (hd : decode c.code pc = .ok (.lload k, 2)) (hl : Ls[k]? = some (.val (.long v))) (hp : pc + 2 = pc') (q : own_Go p e below Q T (mkF m pc' Ls (.long v :: rest))) : own_Go p e below Q T (mkF m pc Ls rest) := by
  subst hp; exact own_go (fun t k' => XS.lload X.here hx rfl hd hl k') q
theorem o_aloadN (X : Stand p l e R s m args below meth c T locs cells slots) (hx : p.tables.exec = Jvm.exec) {k : Fin 4} {v : Value} (hd : decode c.code pc = .ok (.aload_n k, 1)) (hl : Ls[k.val]? = some (.val v)) (hv : v.isRef = true) (hp : pc + 1 = pc') (q : own_Go p e below Q T (mkF m pc' Ls (v :: rest))) : own_Go p e below Q T (mkF m pc Ls rest) := by
  subst hp; exact own_go (fun t k' => XS.aloadN X.here hx rfl hd hl hv k') q
theorem o_aload (X : Stand p l e R s m args below meth c T locs cells slots) (hx : p.tables.exec = Jvm.exec) {k : Nat} {v : Value} (hd : decode c.code pc = .ok (.aload k, 2)) (hl : Ls[k]? = some (.val v)) (hv : v.isRef = true) (hp : pc + 2 = pc') (q : own_Go p e below Q T (mkF m pc' Ls (v :: rest))) : own_Go p e below Q T (mkF m pc Ls rest) := by
  subst hp; exact own_go (fun t k' => XS.aload X.here hx rfl hd hl hv k') q
theorem o_istoreN (X : Stand p l e R s m args below meth c T locs cells slots) (hx : p.tables.exec = Jvm.exec) {k : Fin 4} (hd : decode c.code pc = .ok (.istore_n k, 1)) (hl : storeLocals Ls k.val (.int x) = some l') (hp : pc + 1 = pc') (q : own_Go p e below Q T (mkF m pc' l' rest)) : own_Go p e below Q T (mkF m pc Ls (.int x :: rest)) := by
  subst hp; exact own_go (fun t k' => XS.istoreN X.here hx rfl hd rfl hl k') q
theorem o_istore (X : Stand p l e R s m args below meth c T locs cells slots) (hx : p.tables.exec = Jvm.exec) {k : Nat} (hd : decode c.code pc = .ok (.istore k, 2)) (hl : storeLocals Ls k (.int x) = some l') (hp : pc + 2 = pc') (q : own_Go p e below Q T (mkF m pc' l' rest)) : own_Go p e below Q T (mkF m pc Ls (.int x :: rest)) := by
  subst hp; exact own_go (fun t k' => XS.istore X.here hx rfl hd rfl hl k') q
theorem o_lstoreN (X : Stand p l e R s m args below meth c T locs cells slots) (hx : p.tables.exec = Jvm.exec) {k : Fin 4} (hd : decode c.code pc = .ok (.lstore_n k, 1)) (hl : storeLocals Ls k.val (.long u) = some l') (hp : pc + 1 = pc') (q : own_Go p e below Q T (mkF m pc' l' rest)) : own_Go p e below Q T (mkF m pc Ls (.long u :: rest)) := by
  subst hp; exact own_go (fun t k' => XS.lstoreN X.here hx rfl hd rfl hl k') q
theorem o_lstore (X : Stand p l e R s m args below meth c T locs cells slots) (hx : p.tables.exec = Jvm.exec) {k : Nat} (hd : decode c.code pc = .ok (.lstore k, 2)) (hl : storeLocals Ls k (.long u) = some l') (hp : pc + 2 = pc') (q : own_Go p e below Q T (mkF m pc' l' rest)) : own_Go p e below Q T (mkF m pc Ls (.long u :: rest)) := by
  subst hp; exact own_go (fun t k' => XS.lstore X.here hx rfl hd rfl hl k') q
theorem o_astoreN (X : Stand p l e R s m args below meth c T locs cells slots) (hx : p.tables.exec = Jvm.exec) {k : Fin 4} {v : Value} (hd : decode c.code pc = .ok (.astore_n k, 1)) (hv : v.isRef = true) (hl : storeLocals Ls k.val v = some l') (hp : pc + 1 = pc') (q : own_Go p e below Q T (mkF m pc' l' rest)) : own_Go p e below Q T (mkF m pc Ls (v :: rest)) := by
  subst hp; exact own_go (fun t k' => XS.astoreN X.here hx rfl hd rfl hv hl k') q
theorem o_astore (X : Stand p l e R s m args below meth c T locs cells slots) (hx : p.tables.exec = Jvm.exec) {k : Nat} {v : Value} (hd : decode c.code pc = .ok (.astore k, 2)) (hv : v.isRef = true) (hl : storeLocals Ls k v = some l') (hp : pc + 2 = pc') (q : own_Go p e below Q T (mkF m pc' l' rest)) : own_Go p e below Q T (mkF m pc Ls (v :: rest)) := by
  subst hp; exact own_go (fun t k' => XS.astore X.here hx rfl hd rfl hv hl k') q
theorem o_iconst (X : Stand p l e R s m args below meth c T locs cells slots) (hx : p.tables.exec = Jvm.exec) {i : Int} (hd : decode c.code pc = .ok (.iconst i, 1)) (hv : Int32.ofInt i = x) (hp : pc + 1 = pc') (q : own_Go p e below Q T (mkF m pc' Ls (.int x :: rest))) : own_Go p e below Q T (mkF m pc Ls rest) := by
  subst hp hv; exact own_go (fun t k' => XS.iconst X.here hx rfl hd k') q
theorem o_bipush (X : Stand p l e R s m args below meth c T locs cells slots) (hx : p.tables.exec = Jvm.exec) {i : Int} (hd : decode c.code pc = .ok (.bipush i, 2)) (hv : (Int8.ofInt i).toInt32 = x) (hp : pc + 2 = pc') (q : own_Go p e below Q T (mkF m pc' Ls (.int x :: rest))) : own_Go p e below Q T (mkF m pc Ls rest) := by
  subst hp hv; exact own_go (fun t k' => XS.bipush X.here hx rfl hd k') q
theorem o_sipush (X : Stand p l e R s m args below meth c T locs cells slots) (hx : p.tables.exec = Jvm.exec) {i : Int} (hd : decode c.code pc = .ok (.sipush i, 3)) (hv : (Int16.ofInt i).toInt32 = x) (hp : pc + 3 = pc') (q : own_Go p e below Q T (mkF m pc' Ls (.int x :: rest))) : own_Go p e below Q T (mkF m pc Ls rest) := by
  subst hp hv; exact own_go (fun t k' => XS.sipush X.here hx rfl hd k') q
theorem o_lconst (X : Stand p l e R s m args below meth c T locs cells slots) (hx : p.tables.exec = Jvm.exec) {k : Fin 2} (hd : decode c.code pc = .ok (.lconst k, 1)) (hv : Int64.ofNat k = u) (hp : pc + 1 = pc') (q : own_Go p e below Q T (mkF m pc' Ls (.long u :: rest))) : own_Go p e below Q T (mkF m pc Ls rest) := by
  subst hp hv; exact own_go (fun t k' => XS.lconst X.here hx rfl hd k') q
theorem o_ldcI (X : Stand p l e R s m args below meth c T locs cells slots) (hx : p.tables.exec = Jvm.exec) (hZ : Z.Warmed39 s.vm) {own : String} {index : Nat} (hown : s.vm.findClass own = some m.cls) (w1 : (Cond.constant own index x).before a0 Z = true) (hd : decode c.code pc = .ok (.ldc index, 2)) (hp : pc + 2 = pc') (q : own_Go p e below Q T (mkF m pc' Ls (.int x :: rest))) : own_Go p e below Q T (mkF m pc Ls rest) := by
  subst hp; exact own_go (fun t k' => X.ldcInt hx hown (mvT hZ w1) (g := mkF m pc Ls rest) rfl hd t k') q
theorem o_ldcL (X : Stand p l e R s m args below meth c T locs cells slots) (hx : p.tables.exec = Jvm.exec) (hZ : Z.Warmed39 s.vm) {own : String} {index : Nat} (hown : s.vm.findClass own = some m.cls) (w1 : (Cond.constantLong own index u).before a0 Z = true) (hd : decode c.code pc = .ok (.ldc2_w index, 3)) (hp : pc + 3 = pc') (q : own_Go p e below Q T (mkF m pc' Ls (.long u :: rest))) : own_Go p e below Q T (mkF m pc Ls rest) := by
  subst hp; exact own_go (fun t k' => X.ldc2Long hx hown (mvT hZ w1) (g := mkF m pc Ls rest) rfl hd t k') q
theorem o_iadd (X : Stand p l e R s m args below meth c T locs cells slots) (hx : p.tables.exec = Jvm.exec) (hd : decode c.code pc = .ok (.iadd, 1)) (hp : pc + 1 = pc') {z : Int32} (hz : x + y = z) (q : own_Go p e below Q T (mkF m pc' Ls (.int z :: rest))) : own_Go p e below Q T (mkF m pc Ls (.int y :: .int x :: rest)) := by
  subst hp hz; exact own_go (fun t k' => XS.iadd X.here hx rfl hd rfl k') q
theorem o_isub (X : Stand p l e R s m args below meth c T locs cells slots) (hx : p.tables.exec = Jvm.exec) (hd : decode c.code pc = .ok (.isub, 1)) (hp : pc + 1 = pc') {z : Int32} (hz : x - y = z) (q : own_Go p e below Q T (mkF m pc' Ls (.int z :: rest))) : own_Go p e below Q T (mkF m pc Ls (.int y :: .int x :: rest)) := by
  subst hp hz; exact own_go (fun t k' => XS.isub X.here hx rfl hd rfl k') q
theorem o_imul (X : Stand p l e R s m args below meth c T locs cells slots) (hx : p.tables.exec = Jvm.exec) (hd : decode c.code pc = .ok (.imul, 1)) (hp : pc + 1 = pc') {z : Int32} (hz : x * y = z) (q : own_Go p e below Q T (mkF m pc' Ls (.int z :: rest))) : own_Go p e below Q T (mkF m pc Ls (.int y :: .int x :: rest)) := by
  subst hp hz; exact own_go (fun t k' => XS.imul X.here hx rfl hd rfl k') q
theorem o_iand (X : Stand p l e R s m args below meth c T locs cells slots) (hx : p.tables.exec = Jvm.exec) (hd : decode c.code pc = .ok (.iand, 1)) (hp : pc + 1 = pc') {z : Int32} (hz : x &&& y = z) (q : own_Go p e below Q T (mkF m pc' Ls (.int z :: rest))) : own_Go p e below Q T (mkF m pc Ls (.int y :: .int x :: rest)) := by
  subst hp hz; exact own_go (fun t k' => XS.iand X.here hx rfl hd rfl k') q
theorem o_ior (X : Stand p l e R s m args below meth c T locs cells slots) (hx : p.tables.exec = Jvm.exec) (hd : decode c.code pc = .ok (.ior, 1)) (hp : pc + 1 = pc') {z : Int32} (hz : x ||| y = z) (q : own_Go p e below Q T (mkF m pc' Ls (.int z :: rest))) : own_Go p e below Q T (mkF m pc Ls (.int y :: .int x :: rest)) := by
  subst hp hz; exact own_go (fun t k' => XS.ior X.here hx rfl hd rfl k') q
theorem o_ixor (X : Stand p l e R s m args below meth c T locs cells slots) (hx : p.tables.exec = Jvm.exec) (hd : decode c.code pc = .ok (.ixor, 1)) (hp : pc + 1 = pc') {z : Int32} (hz : x ^^^ y = z) (q : own_Go p e below Q T (mkF m pc' Ls (.int z :: rest))) : own_Go p e below Q T (mkF m pc Ls (.int y :: .int x :: rest)) := by
  subst hp hz; exact own_go (fun t k' => XS.ixor X.here hx rfl hd rfl k') q
/-- Java's shifts, remainders: under names of our own -/
def own_shl (x y : Int32) : Int32 := x <<< (y &&& 31)
def own_shr (x y : Int32) : Int32 := x >>> (y &&& 31)
def own_ushr (x y : Int32) : Int32 := (x.toUInt32 >>> (y &&& 31).toUInt32).toInt32
def own_rem (x y : Int32) : Int32 := x - (x / y) * y
def own_lshl (u : Int64) (y : Int32) : Int64 := u <<< (y &&& 0x3f).toInt64
def own_lushr (u : Int64) (y : Int32) : Int64 := (u.toUInt64 >>> (y &&& 0x3f).toInt64.toUInt64).toInt64
def own_lrem (u w : Int64) : Int64 := u - (u / w) * w
theorem o_ishl (X : Stand p l e R s m args below meth c T locs cells slots) (hx : p.tables.exec = Jvm.exec) (hd : decode c.code pc = .ok (.ishl, 1)) (hp : pc + 1 = pc') {z : Int32} (hz : own_shl x y = z) (q : own_Go p e below Q T (mkF m pc' Ls (.int z :: rest))) : own_Go p e below Q T (mkF m pc Ls (.int y :: .int x :: rest)) := by
  subst hp hz; exact own_go (fun t k' => XS.ishl X.here hx rfl hd rfl k') q
theorem o_ishr (X : Stand p l e R s m args below meth c T locs cells slots) (hx : p.tables.exec = Jvm.exec) (hd : decode c.code pc = .ok (.ishr, 1)) (hp : pc + 1 = pc') {z : Int32} (hz : own_shr x y = z) (q : own_Go p e below Q T (mkF m pc' Ls (.int z :: rest))) : own_Go p e below Q T (mkF m pc Ls (.int y :: .int x :: rest)) := by
  subst hp hz; exact own_go (fun t k' => XS.ishr X.here hx rfl hd rfl k') q
theorem o_iushr (X : Stand p l e R s m args below meth c T locs cells slots) (hx : p.tables.exec = Jvm.exec) (hd : decode c.code pc = .ok (.iushr, 1)) (hp : pc + 1 = pc') {z : Int32} (hz : own_ushr x y = z) (q : own_Go p e below Q T (mkF m pc' Ls (.int z :: rest))) : own_Go p e below Q T (mkF m pc Ls (.int y :: .int x :: rest)) := by
  subst hp hz; exact own_go (fun t k' => XS.iushr X.here hx rfl hd rfl k') q
theorem o_irem (X : Stand p l e R s m args below meth c T locs cells slots) (hx : p.tables.exec = Jvm.exec) (hd : decode c.code pc = .ok (.irem, 1)) (hp : pc + 1 = pc') (hy : y ≠ 0) {z : Int32} (hz : own_rem x y = z) (q : own_Go p e below Q T (mkF m pc' Ls (.int z :: rest))) : own_Go p e below Q T (mkF m pc Ls (.int y :: .int x :: rest)) := by
  subst hp hz; exact own_go (fun t k' => XS.irem X.here hx rfl hd rfl hy k') q
theorem o_idiv (X : Stand p l e R s m args below meth c T locs cells slots) (hx : p.tables.exec = Jvm.exec) (hd : decode c.code pc = .ok (.idiv, 1)) (hp : pc + 1 = pc') (hy : y ≠ 0) {z : Int32} (hz : x / y = z) (q : own_Go p e below Q T (mkF m pc' Ls (.int z :: rest))) : own_Go p e below Q T (mkF m pc Ls (.int y :: .int x :: rest)) := by
  subst hp hz; exact own_go (fun t k' => XS.idiv X.here hx rfl hd rfl hy k') q
theorem o_ineg (X : Stand p l e R s m args below meth c T locs cells slots) (hx : p.tables.exec = Jvm.exec) (hd : decode c.code pc = .ok (.ineg, 1)) (hp : pc + 1 = pc') {z : Int32} (hz : -x = z) (q : own_Go p e below Q T (mkF m pc' Ls (.int z :: rest))) : own_Go p e below Q T (mkF m pc Ls (.int x :: rest)) := by
  subst hp hz; exact own_go (fun t k' => XS.ineg X.here hx rfl hd rfl k') q
theorem o_ladd (X : Stand p l e R s m args below meth c T locs cells slots) (hx : p.tables.exec = Jvm.exec) (hd : decode c.code pc = .ok (.ladd, 1)) (hp : pc + 1 = pc') {z : Int64} (hz : u + w = z) (q : own_Go p e below Q T (mkF m pc' Ls (.long z :: rest))) : own_Go p e below Q T (mkF m pc Ls (.long w :: .long u :: rest)) := by
  subst hp hz; exact own_go (fun t k' => XS.ladd X.here hx rfl hd rfl k') q
theorem o_lsub (X : Stand p l e R s m args below meth c T locs cells slots) (hx : p.tables.exec = Jvm.exec) (hd : decode c.code pc = .ok (.lsub, 1)) (hp : pc + 1 = pc') {z : Int64} (hz : u - w = z) (q : own_Go p e below Q T (mkF m pc' Ls (.long z :: rest))) : own_Go p e below Q T (mkF m pc Ls (.long w :: .long u :: rest)) := by
  subst hp hz; exact own_go (fun t k' => XS.lsub X.here hx rfl hd rfl k') q
theorem o_lmul (X : Stand p l e R s m args below meth c T locs cells slots) (hx : p.tables.exec = Jvm.exec) (hd : decode c.code pc = .ok (.lmul, 1)) (hp : pc + 1 = pc') {z : Int64} (hz : u * w = z) (q : own_Go p e below Q T (mkF m pc' Ls (.long z :: rest))) : own_Go p e below Q T (mkF m pc Ls (.long w :: .long u :: rest)) := by
  subst hp hz; exact own_go (fun t k' => XS.lmul X.here hx rfl hd rfl k') q
theorem o_land (X : Stand p l e R s m args below meth c T locs cells slots) (hx : p.tables.exec = Jvm.exec) (hd : decode c.code pc = .ok (.land, 1)) (hp : pc + 1 = pc') {z : Int64} (hz : u &&& w = z) (q : own_Go p e below Q T (mkF m pc' Ls (.long z :: rest))) : own_Go p e below Q T (mkF m pc Ls (.long w :: .long u :: rest)) := by
  subst hp hz; exact own_go (fun t k' => XS.land X.here hx rfl hd rfl k') q
theorem o_lor (X : Stand p l e R s m args below meth c T locs cells slots) (hx : p.tables.exec = Jvm.exec) (hd : decode c.code pc = .ok (.lor, 1)) (hp : pc + 1 = pc') {z : Int64} (hz : u ||| w = z) (q : own_Go p e below Q T (mkF m pc' Ls (.long z :: rest))) : own_Go p e below Q T (mkF m pc Ls (.long w :: .long u :: rest)) := by
  subst hp hz; exact own_go (fun t k' => XS.lor X.here hx rfl hd rfl k') q
theorem o_lxor (X : Stand p l e R s m args below meth c T locs cells slots) (hx : p.tables.exec = Jvm.exec) (hd : decode c.code pc = .ok (.lxor, 1)) (hp : pc + 1 = pc') {z : Int64} (hz : u ^^^ w = z) (q : own_Go p e below Q T (mkF m pc' Ls (.long z :: rest))) : own_Go p e below Q T (mkF m pc Ls (.long w :: .long u :: rest)) := by
  subst hp hz; exact own_go (fun t k' => XS.lxor X.here hx rfl hd rfl k') q
theorem o_lshl (X : Stand p l e R s m args below meth c T locs cells slots) (hx : p.tables.exec = Jvm.exec) (hd : decode c.code pc = .ok (.lshl, 1)) (hp : pc + 1 = pc') {z : Int64} (hz : own_lshl u y = z) (q : own_Go p e below Q T (mkF m pc' Ls (.long z :: rest))) : own_Go p e below Q T (mkF m pc Ls (.int y :: .long u :: rest)) := by
  subst hp hz; exact own_go (fun t k' => XS.lshl X.here hx rfl hd rfl k') q
theorem o_lushr (X : Stand p l e R s m args below meth c T locs cells slots) (hx : p.tables.exec = Jvm.exec) (hd : decode c.code pc = .ok (.lushr, 1)) (hp : pc + 1 = pc') {z : Int64} (hz : own_lushr u y = z) (q : own_Go p e below Q T (mkF m pc' Ls (.long z :: rest))) : own_Go p e below Q T (mkF m pc Ls (.int y :: .long u :: rest)) := by
  subst hp hz; exact own_go (fun t k' => XS.lushr X.here hx rfl hd rfl k') q
theorem o_ldiv (X : Stand p l e R s m args below meth c T locs cells slots) (hx : p.tables.exec = Jvm.exec) (hd : decode c.code pc = .ok (.ldiv, 1)) (hp : pc + 1 = pc') (hy : w ≠ 0) {z : Int64} (hz : u / w = z) (q : own_Go p e below Q T (mkF m pc' Ls (.long z :: rest))) : own_Go p e below Q T (mkF m pc Ls (.long w :: .long u :: rest)) := by
  subst hp hz; exact own_go (fun t k' => XS.ldiv X.here hx rfl hd rfl hy k') q
theorem o_lrem (X : Stand p l e R s m args below meth c T locs cells slots) (hx : p.tables.exec = Jvm.exec) (hd : decode c.code pc = .ok (.lrem, 1)) (hp : pc + 1 = pc') (hy : w ≠ 0) {z : Int64} (hz : own_lrem u w = z) (q : own_Go p e below Q T (mkF m pc' Ls (.long z :: rest))) : own_Go p e below Q T (mkF m pc Ls (.long w :: .long u :: rest)) := by
  subst hp hz; exact own_go (fun t k' => XS.lrem X.here hx rfl hd rfl hy k') q
theorem o_i2l (X : Stand p l e R s m args below meth c T locs cells slots) (hx : p.tables.exec = Jvm.exec) (hd : decode c.code pc = .ok (.i2l, 1)) (hp : pc + 1 = pc') {z : Int64} (hz : x.toInt64 = z) (q : own_Go p e below Q T (mkF m pc' Ls (.long z :: rest))) : own_Go p e below Q T (mkF m pc Ls (.int x :: rest)) := by
  subst hp hz; exact own_go (fun t k' => XS.i2l X.here hx rfl hd rfl k') q
theorem o_l2i (X : Stand p l e R s m args below meth c T locs cells slots) (hx : p.tables.exec = Jvm.exec) (hd : decode c.code pc = .ok (.l2i, 1)) (hp : pc + 1 = pc') {z : Int32} (hz : u.toInt32 = z) (q : own_Go p e below Q T (mkF m pc' Ls (.int z :: rest))) : own_Go p e below Q T (mkF m pc Ls (.long u :: rest)) := by
  subst hp hz; exact own_go (fun t k' => XS.l2i X.here hx rfl hd rfl k') q
def own_i2b (x : Int32) : Int32 := x.toInt8.toInt32
def own_i2c (x : Int32) : Int32 := x.toUInt32.toUInt16.toUInt32.toInt32
theorem o_i2b (X : Stand p l e R s m args below meth c T locs cells slots) (hx : p.tables.exec = Jvm.exec) (hd : decode c.code pc = .ok (.i2b, 1)) (hp : pc + 1 = pc') {z : Int32} (hz : own_i2b x = z) (q : own_Go p e below Q T (mkF m pc' Ls (.int z :: rest))) : own_Go p e below Q T (mkF m pc Ls (.int x :: rest)) := by
  subst hp hz; exact own_go (fun t k' => XS.i2b X.here hx rfl hd rfl k') q
theorem o_i2c (X : Stand p l e R s m args below meth c T locs cells slots) (hx : p.tables.exec = Jvm.exec) (hd : decode c.code pc = .ok (.i2c, 1)) (hp : pc + 1 = pc') {z : Int32} (hz : own_i2c x = z) (q : own_Go p e below Q T (mkF m pc' Ls (.int z :: rest))) : own_Go p e below Q T (mkF m pc Ls (.int x :: rest)) := by
  subst hp hz; exact own_go (fun t k' => XS.i2c X.here hx rfl hd rfl k') q
theorem o_iinc (X : Stand p l e R s m args below meth c T locs cells slots) (hx : p.tables.exec = Jvm.exec) {k : Nat} {i : Int} (hd : decode c.code pc = .ok (.iinc k i, 3)) (hl : Ls[k]? = some (.val (.int x))) (hz : x + Int32.ofInt i = y) (hl' : storeLocals Ls k (.int y) = some l') (hp : pc + 3 = pc') (q : own_Go p e below Q T (mkF m pc' l' rest)) : own_Go p e below Q T (mkF m pc Ls rest) := by
  subst hp hz; exact own_go (fun t k' => XS.iinc X.here hx rfl hd hl hl' k') q
theorem o_dup (X : Stand p l e R s m args below meth c T locs cells slots) (hx : p.tables.exec = Jvm.exec) {v : Value} (hd : decode c.code pc = .ok (.dup, 1)) (hv : v.category = 1) (hp : pc + 1 = pc') (q : own_Go p e below Q T (mkF m pc' Ls (v :: v :: rest))) : own_Go p e below Q T (mkF m pc Ls (v :: rest)) := by
  subst hp; exact own_go (fun t k' => XS.dup X.here hx rfl hd rfl hv k') q
theorem o_pop (X : Stand p l e R s m args below meth c T locs cells slots) (hx : p.tables.exec = Jvm.exec) {v : Value} (hd : decode c.code pc = .ok (.pop, 1)) (hv : v.category = 1) (hp : pc + 1 = pc') (q : own_Go p e below Q T (mkF m pc' Ls rest)) : own_Go p e below Q T (mkF m pc Ls (v :: rest)) := by
  subst hp; exact own_go (fun t k' => XS.pop X.here hx rfl hd rfl hv k') q
theorem o_goto (X : Stand p l e R s m args below meth c T locs cells slots) (hx : p.tables.exec = Jvm.exec) {o : Int} (hd : decode c.code pc = .ok (.goto o, 3)) (ho : 0 ≤ (pc : Int) + o) (hp : ((pc : Int) + o).toNat = pc') (q : own_Go p e below Q T (mkF m pc' Ls rest)) : own_Go p e below Q T (mkF m pc Ls rest) :=
  own_go (fun t k' => XS.goto X.here hx rfl rfl hd ho hp k') q
theorem o_ifP (X : Stand p l e R s m args below meth c T locs cells slots) (hx : p.tables.exec = Jvm.exec) {cd : ClassFile.Cond} {o : Int} {P : Prop} [Decidable P] (hP : P → ifCond.holds cd x = true) (hN : ¬ P → ifCond.holds cd x = false) (hd : decode c.code pc = .ok (.ifCond cd o, 3)) (ho : 0 ≤ (pc : Int) + o) (hp : ((pc : Int) + o).toNat = pc1) (hp2 : pc + 3 = pc2)
    (kt : P → own_Go p e below Q T (mkF m pc1 Ls rest)) (kf : ¬ P → own_Go p e below Q T (mkF m pc2 Ls rest)) : own_Go p e below Q T (mkF m pc Ls (.int x :: rest)) := by
  subst hp2
  by_cases q : P
  · exact own_go (fun t k' => XS.ifYes X.here hx rfl rfl hd rfl (hP q) ho hp k') (kt q)
  · exact own_go (fun t k' => XS.ifNo X.here hx rfl hd rfl (hN q) k') (kf q)
theorem o_ifN (X : Stand p l e R s m args below meth c T locs cells slots) (hx : p.tables.exec = Jvm.exec) {cd : ClassFile.Cond} {o : Int} {P : Prop} [Decidable P] (hP : P → ifCond.holds cd x = false) (hN : ¬ P → ifCond.holds cd x = true) (hd : decode c.code pc = .ok (.ifCond cd o, 3)) (ho : 0 ≤ (pc : Int) + o) (hp : ((pc : Int) + o).toNat = pc1) (hp2 : pc + 3 = pc2)
    (kt : ¬ P → own_Go p e below Q T (mkF m pc1 Ls rest)) (kf : P → own_Go p e below Q T (mkF m pc2 Ls rest)) : own_Go p e below Q T (mkF m pc Ls (.int x :: rest)) := by
  subst hp2
  by_cases q : P
  · exact own_go (fun t k' => XS.ifNo X.here hx rfl hd rfl (hP q) k') (kf q)
  · exact own_go (fun t k' => XS.ifYes X.here hx rfl rfl hd rfl (hN q) ho hp k') (kt q)
theorem o_icP (X : Stand p l e R s m args below meth c T locs cells slots) (hx : p.tables.exec = Jvm.exec) {cd : ClassFile.Cond} {o : Int} {P : Prop} [Decidable P] (hP : P → if_icmp.holds cd x y = true) (hN : ¬ P → if_icmp.holds cd x y = false) (hd : decode c.code pc = .ok (.if_icmp cd o, 3)) (ho : 0 ≤ (pc : Int) + o) (hp : ((pc : Int) + o).toNat = pc1) (hp2 : pc + 3 = pc2)
    (kt : P → own_Go p e below Q T (mkF m pc1 Ls rest)) (kf : ¬ P → own_Go p e below Q T (mkF m pc2 Ls rest)) : own_Go p e below Q T (mkF m pc Ls (.int y :: .int x :: rest)) := by
  subst hp2
  by_cases q : P
  · exact own_go (fun t k' => XS.icmpYes X.here hx rfl rfl hd rfl (hP q) ho hp k') (kt q)
  · exact own_go (fun t k' => XS.icmpNo X.here hx rfl hd rfl (hN q) k') (kf q)
theorem o_icN (X : Stand p l e R s m args below meth c T locs cells slots) (hx : p.tables.exec = Jvm.exec) {cd : ClassFile.Cond} {o : Int} {P : Prop} [Decidable P] (hP : P → if_icmp.holds cd x y = false) (hN : ¬ P → if_icmp.holds cd x y = true) (hd : decode c.code pc = .ok (.if_icmp cd o, 3)) (ho : 0 ≤ (pc : Int) + o) (hp : ((pc : Int) + o).toNat = pc1) (hp2 : pc + 3 = pc2)
    (kt : ¬ P → own_Go p e below Q T (mkF m pc1 Ls rest)) (kf : P → own_Go p e below Q T (mkF m pc2 Ls rest)) : own_Go p e below Q T (mkF m pc Ls (.int y :: .int x :: rest)) := by
  subst hp2
  by_cases q : P
  · exact own_go (fun t k' => XS.icmpNo X.here hx rfl hd rfl (hP q) k') (kf q)
  · exact own_go (fun t k' => XS.icmpYes X.here hx rfl rfl hd rfl (hN q) ho hp k') (kt q)
/-- a branch that goes one way for sure -/
theorem o_ifY (X : Stand p l e R s m args below meth c T locs cells slots) (hx : p.tables.exec = Jvm.exec) {cd : ClassFile.Cond} {o : Int} (hc : ifCond.holds cd x = true) (hd : decode c.code pc = .ok (.ifCond cd o, 3)) (ho : 0 ≤ (pc : Int) + o) (hp : ((pc : Int) + o).toNat = pc') (q : own_Go p e below Q T (mkF m pc' Ls rest)) : own_Go p e below Q T (mkF m pc Ls (.int x :: rest)) :=
  own_go (fun t k' => XS.ifYes X.here hx rfl rfl hd rfl hc ho hp k') q
theorem o_ifX (X : Stand p l e R s m args below meth c T locs cells slots) (hx : p.tables.exec = Jvm.exec) {cd : ClassFile.Cond} {o : Int} (hc : ifCond.holds cd x = false) (hd : decode c.code pc = .ok (.ifCond cd o, 3)) (hp : pc + 3 = pc') (q : own_Go p e below Q T (mkF m pc' Ls rest)) : own_Go p e below Q T (mkF m pc Ls (.int x :: rest)) := by
  subst hp; exact own_go (fun t k' => XS.ifNo X.here hx rfl hd rfl hc k') q
theorem o_icY (X : Stand p l e R s m args below meth c T locs cells slots) (hx : p.tables.exec = Jvm.exec) {cd : ClassFile.Cond} {o : Int} (hc : if_icmp.holds cd x y = true) (hd : decode c.code pc = .ok (.if_icmp cd o, 3)) (ho : 0 ≤ (pc : Int) + o) (hp : ((pc : Int) + o).toNat = pc') (q : own_Go p e below Q T (mkF m pc' Ls rest)) : own_Go p e below Q T (mkF m pc Ls (.int y :: .int x :: rest)) :=
  own_go (fun t k' => XS.icmpYes X.here hx rfl rfl hd rfl hc ho hp k') q
theorem o_icX (X : Stand p l e R s m args below meth c T locs cells slots) (hx : p.tables.exec = Jvm.exec) {cd : ClassFile.Cond} {o : Int} (hc : if_icmp.holds cd x y = false) (hd : decode c.code pc = .ok (.if_icmp cd o, 3)) (hp : pc + 3 = pc') (q : own_Go p e below Q T (mkF m pc' Ls rest)) : own_Go p e below Q T (mkF m pc Ls (.int y :: .int x :: rest)) := by
  subst hp; exact own_go (fun t k' => XS.icmpNo X.here hx rfl hd rfl hc k') q
theorem o_lcmp (X : Stand p l e R s m args below meth c T locs cells slots) (hx : p.tables.exec = Jvm.exec) (hd : decode c.code pc = .ok (.lcmp, 1)) (hp : pc + 1 = pc') (q : own_Go p e below Q T (mkF m pc' Ls (.int (XT.cmpL u w) :: rest))) : own_Go p e below Q T (mkF m pc Ls (.long w :: .long u :: rest)) := by
  subst hp; exact own_go (fun t k' => XS.lcmp X.here hx rfl hd rfl k') q
theorem o_ifnullX (X : Stand p l e R s m args below meth c T locs cells slots) (hx : p.tables.exec = Jvm.exec) {o : Int} {a : Addr} (hd : decode c.code pc = .ok (.ifnull o, 3)) (hp : pc + 3 = pc') (q : own_Go p e below Q T (mkF m pc' Ls rest)) : own_Go p e below Q T (mkF m pc Ls (.ref a :: rest)) := by
  subst hp; exact own_go (fun t k' => XS.ifnullNo X.here hx rfl hd rfl k') q
/-- the ends -/
theorem o_ret (X : Stand p l e R s m args below meth c T locs cells slots) {v : Option Value} {g : JFrame} (hv : meth.sig.returnType = none → v = none) (hlk : meth.locks = false) (hc : cells ≤ cc) (hs : slots ≤ ss) (eT : T.heap = h) (hK : K v h locs)
    (st : ∀ fs : List Frame, (∀ (f : JFrame) (acts : List Action), f.method = m → f.locked = none → f.entered = [] → (doReturn e (T.setTop f) acts v).1 = T.setFrames fs) → Steps p.tables e below (T.setTop g) (T.setFrames fs)) : own_Go p e below (own_Q s K cc ss) T g := by
  subst eT
  obtain ⟨fs, hr, hrun, hended, hW, hsame⟩ := X.leave (v := v) hv hlk
  exact ⟨_, _, st fs hr, hrun, hended, _, _, rfl, hK, ⟨_, rfl⟩, hW, hsame.mono hc hs⟩
theorem o_retV (X : Stand p l e R s m args below meth c T locs cells slots) (hx : p.tables.exec = Jvm.exec) (hret : meth.sig.returnType = none) (hlk : meth.locks = false) (hd : decode c.code pc = .ok (.return_, 1)) (hc : cells ≤ cc) (hs : slots ≤ ss) (eT : T.heap = h) (hK : K none h locs) : own_Go p e below (own_Q s K cc ss) T (mkF m pc Ls []) :=
  o_ret X (fun _ => rfl) hlk hc hs eT hK fun fs hr => X.returnOut hx hret hd hr
theorem o_retI (X : Stand p l e R s m args below meth c T locs cells slots) (hx : p.tables.exec = Jvm.exec) (hret : meth.sig.returnType = some .int) (hlk : meth.locks = false) (hd : decode c.code pc = .ok (.ireturn, 1)) (hc : cells ≤ cc) (hs : slots ≤ ss) (eT : T.heap = h) (hK : K (some (.int x)) h locs) : own_Go p e below (own_Q s K cc ss) T (mkF m pc Ls (.int x :: rest)) :=
  o_ret X (fun h => by rw [hret] at h; cases h) hlk hc hs eT hK fun fs hr => retI X hx hret hd hr
theorem o_retN (X : Stand p l e R s m args below meth c T locs cells slots) (hx : p.tables.exec = Jvm.exec) {t : FieldType} (hret : meth.sig.returnType = some t) (ht : t = .boolean ∨ t = .byte ∨ t = .char ∨ t = .short) (hlk : meth.locks = false) (hd : decode c.code pc = .ok (.ireturn, 1)) (hc : cells ≤ cc) (hs : slots ≤ ss) (eT : T.heap = h) (hK : K (some (.int (nar t x))) h locs) : own_Go p e below (own_Q s K cc ss) T (mkF m pc Ls (.int x :: rest)) :=
  o_ret X (fun h => by rw [hret] at h; cases h) hlk hc hs eT hK fun fs hr => retN X hx hret ht hd hr
theorem o_retL (X : Stand p l e R s m args below meth c T locs cells slots) (hx : p.tables.exec = Jvm.exec) (hret : meth.sig.returnType = some .long) (hlk : meth.locks = false) (hd : decode c.code pc = .ok (.lreturn, 1)) (hc : cells ≤ cc) (hs : slots ≤ ss) (eT : T.heap = h) (hK : K (some (.long u)) h locs) : own_Go p e below (own_Q s K cc ss) T (mkF m pc Ls (.long u :: rest)) :=
  o_ret X (fun h => by rw [hret] at h; cases h) hlk hc hs eT hK fun fs hr => by
    jvm_step X.here [X.here.top, hx, hd, X.method', hret, narrow]
    first | (intro acts; rw [hr _ acts rfl rfl rfl]) | rw [hr _ _ rfl rfl rfl]
    exact Steps.refl _
theorem o_retA (X : Stand p l e R s m args below meth c T locs cells slots) (hx : p.tables.exec = Jvm.exec) {t : FieldType} (hret : meth.sig.returnType = some (.array t)) (hlk : meth.locks = false) {a : Addr} (hd : decode c.code pc = .ok (.areturn, 1)) (hc : cells ≤ cc) (hs : slots ≤ ss) (eT : T.heap = h) (hK : K (some (.ref a)) h locs) : own_Go p e below (own_Q s K cc ss) T (mkF m pc Ls (.ref a :: rest)) :=
  o_ret X (fun h => by rw [hret] at h; cases h) hlk hc hs eT hK fun fs hr => by
    jvm_step X.here [X.here.top, hx, hd, X.method', hret, Value.isRef, FieldType.isReference]
    first | (intro acts; rw [hr _ acts rfl rfl rfl]) | rw [hr _ _ rfl rfl rfl]
    exact Steps.refl _
/-- arrays as lists -/
def own_AI (Z : State) (h : Heap) (a : Addr) (ty : FieldType) (vs : List Int32) : Prop := ∃ cl : Cell, Arr Z h a cl ty ∧ cl.slots = (vs.map Value.int).toArray
def own_AJ (Z : State) (h : Heap) (a : Addr) (vs : List Int64) : Prop := ∃ cl : Cell, Arr Z h a cl .long ∧ cl.slots = (vs.map Value.long).toArray
def own_in (n : Nat) (j : Int32) : Prop := ¬ j < 0 ∧ j.toNatClampNeg < n
def own_get (vs : List Int32) (j : Int32) : Int32 := vs.getD j.toNatClampNeg 0
def own_getL (vs : List Int64) (j : Int32) : Int64 := vs.getD j.toNatClampNeg 0
def own_set (vs : List Int32) (j x : Int32) : List Int32 := vs.set j.toNatClampNeg x
def own_setL (vs : List Int64) (j : Int32) (u : Int64) : List Int64 := vs.set j.toNatClampNeg u
theorem own_AI.lt {a : Addr} {ty : FieldType} {vs : List Int32} (A : own_AI Z h a ty vs) : a < h.size := by obtain ⟨cl, A, -⟩ := A; exact A.lt
theorem own_AI.ext {a : Addr} {ty : FieldType} {vs : List Int32} (A : own_AI Z h a ty vs) (E : Ext h h') : own_AI Z h' a ty vs := by obtain ⟨cl, A, q⟩ := A; exact ⟨cl, A.ext E, q⟩
theorem own_AI.other {a b : Addr} {ty : FieldType} {vs : List Int32} {sl : Nat} {v : Value} (A : own_AI Z h a ty vs) (W : Wr h h' b sl v) (ne : a ≠ b) : own_AI Z h' a ty vs := by obtain ⟨cl, A, q⟩ := A; exact ⟨cl, A.other W ne, q⟩
theorem own_AI.keep {a : Addr} {ty : FieldType} {vs : List Int32} {ws : List Addr} (A : own_AI Z h a ty vs) (K : Keep h h' ws) (ne : a ∉ ws) : own_AI Z h' a ty vs := by obtain ⟨cl, A, q⟩ := A; exact ⟨cl, ⟨K.2.1 a cl A.1 ne, A.2⟩, q⟩
theorem own_AI.put {a : Addr} {ty : FieldType} {vs : List Int32} {j : Int32} (A : own_AI Z h a ty vs) (W : Wr h h' a j.toNatClampNeg (.int x)) : own_AI Z h' a ty (own_set vs j x) := by
  obtain ⟨cl, A, q⟩ := A
  refine ⟨_, A.same W, ?_⟩
  show cl.slots.setIfInBounds _ _ = _
  rw [q, own_set, List.map_set, List.setIfInBounds_toArray]
theorem own_AJ.lt {a : Addr} {vs : List Int64} (A : own_AJ Z h a vs) : a < h.size := by obtain ⟨cl, A, -⟩ := A; exact A.lt
theorem own_AJ.ext {a : Addr} {vs : List Int64} (A : own_AJ Z h a vs) (E : Ext h h') : own_AJ Z h' a vs := by obtain ⟨cl, A, q⟩ := A; exact ⟨cl, A.ext E, q⟩
theorem own_AJ.other {a b : Addr} {vs : List Int64} {sl : Nat} {v : Value} (A : own_AJ Z h a vs) (W : Wr h h' b sl v) (ne : a ≠ b) : own_AJ Z h' a vs := by obtain ⟨cl, A, q⟩ := A; exact ⟨cl, A.other W ne, q⟩
theorem own_AJ.keep {a : Addr} {vs : List Int64} {ws : List Addr} (A : own_AJ Z h a vs) (K : Keep h h' ws) (ne : a ∉ ws) : own_AJ Z h' a vs := by obtain ⟨cl, A, q⟩ := A; exact ⟨cl, ⟨K.2.1 a cl A.1 ne, A.2⟩, q⟩
theorem own_AJ.put {a : Addr} {vs : List Int64} {j : Int32} (A : own_AJ Z h a vs) (W : Wr h h' a j.toNatClampNeg (.long u)) : own_AJ Z h' a (own_setL vs j u) := by
  obtain ⟨cl, A, q⟩ := A
  refine ⟨_, A.same W, ?_⟩
  show cl.slots.setIfInBounds _ _ = _
  rw [q, own_setL, List.map_set, List.setIfInBounds_toArray]
theorem own_inA {n : Nat} {j : Int32} {cl : Cell} (hj : own_in n j) (hn : cl.slots.size = n) : ¬ (j < 0 ∨ cl.slots.size ≤ j.toNatClampNeg) := fun q => q.elim hj.1 fun q => by rw [hn] at q; exact Nat.not_lt.mpr q hj.2
theorem own_szI {cl : Cell} {vs : List Int32} (q : cl.slots = (vs.map Value.int).toArray) : cl.slots.size = vs.length := by rw [q]; simp
theorem own_szJ {cl : Cell} {vs : List Int64} (q : cl.slots = (vs.map Value.long).toArray) : cl.slots.size = vs.length := by rw [q]; simp
theorem own_atI {cl : Cell} {vs : List Int32} {j : Int32} (q : cl.slots = (vs.map Value.int).toArray) (hj : own_in vs.length j) : cl.slots[j.toNatClampNeg]? = some (.int (own_get vs j)) := by
  rw [q, List.getElem?_toArray, List.getElem?_map, List.getElem?_eq_getElem hj.2, own_get, List.getD_eq_getElem?_getD, List.getElem?_eq_getElem hj.2]; rfl
theorem own_atJ {cl : Cell} {vs : List Int64} {j : Int32} (q : cl.slots = (vs.map Value.long).toArray) (hj : own_in vs.length j) : cl.slots[j.toNatClampNeg]? = some (.long (own_getL vs j)) := by
  rw [q, List.getElem?_toArray, List.getElem?_map, List.getElem?_eq_getElem hj.2, own_getL, List.getD_eq_getElem?_getD, List.getElem?_eq_getElem hj.2]; rfl
theorem o_iaload (X : Stand p l e R s m args below meth c T locs cells slots) (hx : p.tables.exec = Jvm.exec) (hZ : Z.Warmed39 s.vm) (eT : T.heap = h) {a : Addr} {vs : List Int32} {j : Int32} (A : own_AI Z h a .int vs) (hj : own_in vs.length j) (hd : decode c.code pc = .ok (.iaload, 1)) (hp : pc + 1 = pc') (hv : own_get vs j = x) (q : own_Go p e below Q T (mkF m pc' Ls (.int x :: rest))) : own_Go p e below Q T (mkF m pc Ls (.int j :: .ref a :: rest)) := by
  subst hp hv
  obtain ⟨cl, A, qs⟩ := A
  exact own_go (fun t k' => X.iaload hx (by rw [eT]; exact A.1) (State.isArrayOf_alike hZ.alike A.2.1) A.2.2 (own_inA hj (own_szI qs)) (own_atI qs hj) (g := mkF m pc Ls (.int j :: .ref a :: rest)) rfl rfl hd t k') q
theorem o_baload (X : Stand p l e R s m args below meth c T locs cells slots) (hx : p.tables.exec = Jvm.exec) (hZ : Z.Warmed39 s.vm) (eT : T.heap = h) {a : Addr} {vs : List Int32} {j : Int32} (A : own_AI Z h a .byte vs) (hj : own_in vs.length j) (hd : decode c.code pc = .ok (.baload, 1)) (hp : pc + 1 = pc') (hv : own_get vs j = x) (q : own_Go p e below Q T (mkF m pc' Ls (.int x :: rest))) : own_Go p e below Q T (mkF m pc Ls (.int j :: .ref a :: rest)) := by
  subst hp hv
  obtain ⟨cl, A, qs⟩ := A
  exact own_go (fun t k' => X.baloadBytes hx (by rw [eT]; exact A.1) (State.isArrayOf_alike hZ.alike A.2.1) A.2.2 (own_inA hj (own_szI qs)) (own_atI qs hj) (g := mkF m pc Ls (.int j :: .ref a :: rest)) rfl rfl hd t k') q
theorem o_laload (X : Stand p l e R s m args below meth c T locs cells slots) (hx : p.tables.exec = Jvm.exec) (hZ : Z.Warmed39 s.vm) (eT : T.heap = h) {a : Addr} {vs : List Int64} {j : Int32} (A : own_AJ Z h a vs) (hj : own_in vs.length j) (hd : decode c.code pc = .ok (.laload, 1)) (hp : pc + 1 = pc') (hv : own_getL vs j = u) (q : own_Go p e below Q T (mkF m pc' Ls (.long u :: rest))) : own_Go p e below Q T (mkF m pc Ls (.int j :: .ref a :: rest)) := by
  subst hp hv
  obtain ⟨cl, A, qs⟩ := A
  exact own_go (fun t k' => X.laload hx (by rw [eT]; exact A.1) (State.isArrayOf_alike hZ.alike A.2.1) A.2.2 (own_inA hj (own_szJ qs)) (own_atJ qs hj) (g := mkF m pc Ls (.int j :: .ref a :: rest)) rfl rfl hd t k') q
/-- the length as arraylength pushes it -/
def own_len (n : Nat) : Int32 := n.toInt32
theorem o_alenI (X : Stand p l e R s m args below meth c T locs cells slots) (hx : p.tables.exec = Jvm.exec) (hZ : Z.Warmed39 s.vm) (eT : T.heap = h) {a : Addr} {ty : FieldType} {vs : List Int32} (A : own_AI Z h a ty vs) (hd : decode c.code pc = .ok (.arraylength, 1)) (hp : pc + 1 = pc') (hv : own_len vs.length = x) (q : own_Go p e below Q T (mkF m pc' Ls (.int x :: rest))) : own_Go p e below Q T (mkF m pc Ls (.ref a :: rest)) := by
  subst hp hv
  obtain ⟨cl, A, qs⟩ := A
  refine own_go (fun t k' => X.arraylength hx (by rw [eT]; exact A.1) (State.isArrayOf_alike hZ.alike A.2.1) (g := mkF m pc Ls (.ref a :: rest)) rfl rfl hd t k') ?_
  rw [own_szI qs]; exact q
theorem o_alenJ (X : Stand p l e R s m args below meth c T locs cells slots) (hx : p.tables.exec = Jvm.exec) (hZ : Z.Warmed39 s.vm) (eT : T.heap = h) {a : Addr} {vs : List Int64} (A : own_AJ Z h a vs) (hd : decode c.code pc = .ok (.arraylength, 1)) (hp : pc + 1 = pc') (hv : own_len vs.length = x) (q : own_Go p e below Q T (mkF m pc' Ls (.int x :: rest))) : own_Go p e below Q T (mkF m pc Ls (.ref a :: rest)) := by
  subst hp hv
  obtain ⟨cl, A, qs⟩ := A
  refine own_go (fun t k' => X.arraylength hx (by rw [eT]; exact A.1) (State.isArrayOf_alike hZ.alike A.2.1) (g := mkF m pc Ls (.ref a :: rest)) rfl rfl hd t k') ?_
  rw [own_szJ qs]; exact q
/-- stores: the place stays in locs -/
theorem o_iastore (X : Stand p l e R s m args below meth c T locs cells slots) (hx : p.tables.exec = Jvm.exec) (hZ : Z.Warmed39 s.vm) (eT : T.heap = h) {a : Addr} {vs vs' : List Int32} {j : Int32} (A : own_AI Z h a .int vs) (hj : own_in vs.length j) (hd : decode c.code pc = .ok (.iastore, 1)) (hp : pc + 1 = pc') (hv : own_set vs j x = vs')
    (k : ∀ T' h', Stand p l e R s m args below meth c T' (locs ++ [⟨a, j.toNatClampNeg⟩]) cells slots → T'.heap = h' → Wr h h' a j.toNatClampNeg (.int x) → own_AI Z h' a .int vs' → own_Go p e below Q T' (mkF m pc' Ls rest)) : own_Go p e below Q T (mkF m pc Ls (.int x :: .int j :: .ref a :: rest)) := by
  subst hp hv
  obtain ⟨cl, A', qs⟩ := id A
  obtain ⟨T', h', X', e', W, st⟩ := stI X hx hZ eT A' (own_inA hj (own_szI qs)) (g := mkF m pc Ls (.int x :: .int j :: .ref a :: rest)) rfl rfl hd
  exact own_go st (k T' h' X' e' W (A.put W))
theorem o_bastore (X : Stand p l e R s m args below meth c T locs cells slots) (hx : p.tables.exec = Jvm.exec) (hZ : Z.Warmed39 s.vm) (eT : T.heap = h) {a : Addr} {vs vs' : List Int32} {j : Int32} (A : own_AI Z h a .byte vs) (hj : own_in vs.length j) (hd : decode c.code pc = .ok (.bastore, 1)) (hp : pc + 1 = pc') (hv : own_set vs j (own_i2b x) = vs')
    (k : ∀ T' h', Stand p l e R s m args below meth c T' (locs ++ [⟨a, j.toNatClampNeg⟩]) cells slots → T'.heap = h' → Wr h h' a j.toNatClampNeg (.int (own_i2b x)) → own_AI Z h' a .byte vs' → own_Go p e below Q T' (mkF m pc' Ls rest)) : own_Go p e below Q T (mkF m pc Ls (.int x :: .int j :: .ref a :: rest)) := by
  subst hp hv
  obtain ⟨cl, A', qs⟩ := id A
  obtain ⟨T', h', X', e', W, st⟩ := stB X hx hZ eT A' (own_inA hj (own_szI qs)) (g := mkF m pc Ls (.int x :: .int j :: .ref a :: rest)) rfl rfl hd
  exact own_go st (k T' h' X' e' W (A.put W))
theorem o_lastore (X : Stand p l e R s m args below meth c T locs cells slots) (hx : p.tables.exec = Jvm.exec) (hZ : Z.Warmed39 s.vm) (eT : T.heap = h) {a : Addr} {vs vs' : List Int64} {j : Int32} (A : own_AJ Z h a vs) (hj : own_in vs.length j) (hd : decode c.code pc = .ok (.lastore, 1)) (hp : pc + 1 = pc') (hv : own_setL vs j u = vs')
    (k : ∀ T' h', Stand p l e R s m args below meth c T' (locs ++ [⟨a, j.toNatClampNeg⟩]) cells slots → T'.heap = h' → Wr h h' a j.toNatClampNeg (.long u) → own_AJ Z h' a vs' → own_Go p e below Q T' (mkF m pc' Ls rest)) : own_Go p e below Q T (mkF m pc Ls (.long u :: .int j :: .ref a :: rest)) := by
  subst hp hv
  obtain ⟨cl, A', qs⟩ := id A
  obtain ⟨T', h', X', e', W, st⟩ := stJ X hx hZ eT A' (own_inA hj (own_szJ qs)) (g := mkF m pc Ls (.long u :: .int j :: .ref a :: rest)) rfl rfl hd
  exact own_go st (k T' h' X' e' W (A.put W))
theorem own_sz (X : Stand p l e R s m args below meth c T locs cells slots) (eT : T.heap = h) : s.heap.size ≤ h.size := by
  have q := X.same.2.1
  rw [← eT]; exact q
/-- the place written lies in a cell made since the start: it needn't be told -/
theorem own_drop {a : Addr} {j : Nat} (X : Stand p l e R s m args below meth c T (locs ++ [⟨a, j⟩]) cells slots) (ha : s.heap.size ≤ a) : Stand p l e R s m args below meth c T locs cells slots := X.forget fun y hy => by cases List.mem_singleton.mp hy; exact ha
theorem own_dropL {L : List Loc} {k : Nat} (X : Stand p l e R s m args below meth c T (locs ++ L) cells slots) (ha : s.heap.size ≤ k) (hL : ∀ y ∈ L, k ≤ y.base) : Stand p l e R s m args below meth c T locs cells slots := X.forget fun y hy => Nat.le_trans ha (hL y hy)
/-- newarray -/
theorem o_newI (X : Stand p l e R s m args below meth c T locs cells slots) (hx : p.tables.exec = Jvm.exec) (hZ : Z.Warmed39 s.vm) (eT : T.heap = h) {aty : ArrayType} {ty : FieldType} (w1 : (Cond.arrayClass ty).before a0 Z = true) (hty : newarray.typeOf aty = ty) (hdv : defaultValue ty = .int 0) (hd : decode c.code pc = .ok (.newarray aty, 2)) (hp : pc + 2 = pc') (hn : ¬ x < 0) {cap : Nat} (hcap : x.toNatClampNeg ≤ cap) (hb : cap * 8 ≤ 536870912) (hc : cells + 1 ≤ R.cells) (hs : slots + cap ≤ R.slots) {vs : List Int32} (hv : List.replicate x.toNatClampNeg 0 = vs)
    (k : ∀ T' h' a, Stand p l e R s m args below meth c T' locs (cells + 1) (slots + cap) → T'.heap = h' → h.size = a → Ext h h' → own_AI Z h' a ty vs → own_Go p e below Q T' (mkF m pc' Ls (.ref a :: rest))) : own_Go p e below Q T (mkF m pc Ls (.int x :: rest)) := by
  subst hp hv hty
  obtain ⟨T', h', cA, X', e', E, A, st⟩ := newP X hx hZ w1 eT (g := mkF m pc Ls (.int x :: rest)) rfl hd rfl hn hcap hb hc hs
  exact own_go st (k T' h' _ X' e' rfl E ⟨_, A, by simp [newA, hdv]⟩)
theorem o_newJ (X : Stand p l e R s m args below meth c T locs cells slots) (hx : p.tables.exec = Jvm.exec) (hZ : Z.Warmed39 s.vm) (eT : T.heap = h) (w1 : (Cond.arrayClass .long).before a0 Z = true) (hd : decode c.code pc = .ok (.newarray .long, 2)) (hp : pc + 2 = pc') (hn : ¬ x < 0) {cap : Nat} (hcap : x.toNatClampNeg ≤ cap) (hb : cap * 8 ≤ 536870912) (hc : cells + 1 ≤ R.cells) (hs : slots + cap ≤ R.slots) {vs : List Int64} (hv : List.replicate x.toNatClampNeg 0 = vs)
    (k : ∀ T' h' a, Stand p l e R s m args below meth c T' locs (cells + 1) (slots + cap) → T'.heap = h' → h.size = a → Ext h h' → own_AJ Z h' a vs → own_Go p e below Q T' (mkF m pc' Ls (.ref a :: rest))) : own_Go p e below Q T (mkF m pc Ls (.int x :: rest)) := by
  subst hp hv
  obtain ⟨T', h', cA, X', e', E, A, st⟩ := newP X hx hZ (aty := .long) w1 eT (g := mkF m pc Ls (.int x :: rest)) rfl hd rfl hn hcap hb hc hs
  exact own_go st (k T' h' _ X' e' rfl E ⟨_, A, by simp [newA, show defaultValue (newarray.typeOf .long) = Value.long 0 from rfl]⟩)
/-- a static call by the callee's contract -/
theorem o_callS (X : Stand p l e R s m args below meth c T locs cells slots) (hx : p.tables.exec = Jvm.exec) (hZ : Z.Warmed39 s.vm) (eT : T.heap = h) {own : String} {index : Nat} {y : MethodName} {bytes : ByteArray} {maxL : Nat} {ret : Option FieldType} {rm : Room} {W : Nat} (hown : s.vm.findClass own = some m.cls)
    (w1 : (Cond.methodLink own index y).before a0 Z = true) (w2 : (Cond.static y).before a0 Z = true) (w3 : (Cond.initialized y.cls).before a0 Z = true) (w4 : (Cond.code y bytes maxL ret).before a0 Z = true) (hy : y.cls ≠ "java/lang/invoke/MethodHandle" ∧ y.cls ≠ "java/lang/invoke/VarHandle") {as' : Array Value} {K : Option Value → Heap → List Loc → Prop}
    (hM : MetFree l y (head1 [Cond.code y bytes maxL ret] rm) (fun a U => a = as' ∧ Z.Warmed39 U.vm ∧ U.heap = h) (fun _ _ _ _ _ => True) (fun _ U o U' => ∃ v L, o = .returned v ∧ K v U'.heap L ∧ FrameEnd U o U' L rm.cells rm.slots))
    (hf : rm.frames + 1 ≤ R.frames) (hl : W + (maxL + 11) + rm.locals ≤ R.locals) (hml : Ls.size = c.maxLocals) {argsL st : List Value} {sig : MethodDescriptor} (hpd : parseMethodDescriptor y.desc = some sig) (hlen : argsL.length = sig.parameters.length) (hst : st = argsL.reverse ++ rest) (has : argsL.toArray = as') (hW : (rest.map fun v => v.category).sum = W)
    (hd : decode c.code pc = .ok (.invokestatic index, 3)) (hp : pc + 3 = pc') (hc : cells + rm.cells ≤ R.cells) (hs : slots + rm.slots ≤ R.slots)
    (k : ∀ v T' L, Stand p l e R s m args below meth c T' (locs ++ L) (cells + rm.cells) (slots + rm.slots) → K v T'.heap L → own_Go p e below Q T' (mkF m pc' Ls (v.toList ++ rest))) : own_Go p e below Q T (mkF m pc Ls st) := by
  subst hp hst has
  obtain ⟨v, _, ⟨T1, L1, k1, n1⟩, -, X1, ⟨Lc, hQ, l1, y1, z1⟩, st1⟩ := Jvm.LawKit.callS X hx hown (mvT hZ w1) (mvT hZ w2) (mvT hZ w3) (mvT hZ w4) hy (backOf (W := W) hM hZ w4 w3 hf hl) (g := mkF m pc Ls (argsL.reverse ++ rest)) rfl hml (argsL := argsL) (rest := rest) (fun sg hsg => by cases hpd.symm.trans hsg; exact hlen) rfl (by show 2 * 0 + _ ≤ _; rw [hW]; omega) hd (fun _ _ => ⟨rfl, eT, hc, hs⟩)
  dsimp only [Pt.U, Pt.locs, Pt.cells, Pt.slots] at X1 l1 y1 z1 st1 hQ
  subst l1 y1 z1
  exact own_go st1 (k v T1 Lc X1 hQ)
/-- a body that writes nothing: what it returns, the heap as it was -/
def own_KP (V : Option Value) (h0 : Heap) : Option Value → Heap → List Loc → Prop := fun v h L => v = V ∧ h = h0 ∧ L = []
/-- a law: what it returns; nothing old is written -/
def own_KL (V : Option Value) : Option Value → Heap → List Loc → Prop := fun v _ L => v = V ∧ L = []
theorem o_callP (X : Stand p l e R s m args below meth c T locs cells slots) (hx : p.tables.exec = Jvm.exec) (hZ : Z.Warmed39 s.vm) (eT : T.heap = h) {own : String} {index : Nat} {y : MethodName} {bytes : ByteArray} {maxL : Nat} {ret : Option FieldType} {rm : Room} {W : Nat} (hown : s.vm.findClass own = some m.cls)
    (w1 : (Cond.methodLink own index y).before a0 Z = true) (w2 : (Cond.static y).before a0 Z = true) (w3 : (Cond.initialized y.cls).before a0 Z = true) (w4 : (Cond.code y bytes maxL ret).before a0 Z = true) (hy : y.cls ≠ "java/lang/invoke/MethodHandle" ∧ y.cls ≠ "java/lang/invoke/VarHandle") {as' : Array Value} {V : Option Value}
    (hM : MetFree l y (head1 [Cond.code y bytes maxL ret] rm) (fun a U => a = as' ∧ Z.Warmed39 U.vm ∧ U.heap = h) (fun _ _ _ _ _ => True) (fun _ U o U' => ∃ v L, o = .returned v ∧ own_KP V h v U'.heap L ∧ FrameEnd U o U' L rm.cells rm.slots))
    (hf : rm.frames + 1 ≤ R.frames) (hl : W + (maxL + 11) + rm.locals ≤ R.locals) (hml : Ls.size = c.maxLocals) {argsL st : List Value} {sig : MethodDescriptor} (hpd : parseMethodDescriptor y.desc = some sig) (hlen : argsL.length = sig.parameters.length) (hst : st = argsL.reverse ++ rest) (has : argsL.toArray = as') (hW : (rest.map fun v => v.category).sum = W)
    (hd : decode c.code pc = .ok (.invokestatic index, 3)) (hp : pc + 3 = pc') (hc0 : rm.cells = 0) (hs0 : rm.slots = 0) (hc : cells + rm.cells ≤ R.cells) (hs : slots + rm.slots ≤ R.slots)
    {st' : List Value} (hst' : V.toList ++ rest = st')
    (k : ∀ T', Stand p l e R s m args below meth c T' locs cells slots → T'.heap = h → own_Go p e below Q T' (mkF m pc' Ls st')) : own_Go p e below Q T (mkF m pc Ls st) := by
  subst hst'
  refine o_callS X hx hZ eT hown w1 w2 w3 w4 hy hM hf hl hml hpd hlen hst has hW hd hp hc hs fun v T' L X' hK => ?_
  obtain ⟨rfl, e', rfl⟩ := hK
  rw [hc0, hs0, List.append_nil] at X'
  exact k T' X' e'
theorem own_snoc {a : Addr} {L : List Loc} {j : Nat} (N : ∀ y ∈ L, y.base = a) : ∀ y ∈ L ++ [⟨a, j⟩], y.base = a := fun y hy => (List.mem_append.mp hy).elim (N y) fun q => by cases List.mem_singleton.mp q; rfl
theorem own_nil (X : Stand p l e R s m args below meth c T (locs ++ []) cells slots) : Stand p l e R s m args below meth c T locs cells slots := by rw [List.append_nil] at X; exact X
/-- a body that writes into the array a alone -/
def own_KW (Z : State) (a : Addr) (ty : FieldType) (vs : List Int32) (h0 : Heap) : Option Value → Heap → List Loc → Prop := fun v h L => v = none ∧ (∀ y ∈ L, y.base = a) ∧ Keep h0 h [a] ∧ own_AI Z h a ty vs
def own_KWJ (Z : State) (a : Addr) (vs : List Int64) (h0 : Heap) : Option Value → Heap → List Loc → Prop := fun v h L => v = none ∧ (∀ y ∈ L, y.base = a) ∧ Keep h0 h [a] ∧ own_AJ Z h a vs
/-- a body that makes an array and hands it back -/
def own_KM (Z : State) (ty : FieldType) (vs : List Int32) (h0 : Heap) : Option Value → Heap → List Loc → Prop := fun v h L => ∃ b, v = some (.ref b) ∧ L = [] ∧ Keep h0 h [] ∧ h0.size ≤ b ∧ own_AI Z h b ty vs
/-- a store over a local that held nothing or one word -/
theorem o_istoreNS (X : Stand p l e R s m args below meth c T locs cells slots) (hx : p.tables.exec = Jvm.exec) {k : Fin 4} {o : Slot} (hd : decode c.code pc = .ok (.istore_n k, 1)) (hold : Ls[k.val]? = some o) (ho : One o) (hl : Ls.setIfInBounds k.val (.val (.int x)) = l') (hp : pc + 1 = pc') (q : own_Go p e below Q T (mkF m pc' l' rest)) : own_Go p e below Q T (mkF m pc Ls (.int x :: rest)) := by
  subst hp hl; exact own_go (fun t k' => XS.istoreNS X.here hx rfl hd rfl hold ho k') q
theorem o_istoreS (X : Stand p l e R s m args below meth c T locs cells slots) (hx : p.tables.exec = Jvm.exec) {k : Nat} {o : Slot} (hd : decode c.code pc = .ok (.istore k, 2)) (hold : Ls[k]? = some o) (ho : One o) (hl : Ls.setIfInBounds k (.val (.int x)) = l') (hp : pc + 2 = pc') (q : own_Go p e below Q T (mkF m pc' l' rest)) : own_Go p e below Q T (mkF m pc Ls (.int x :: rest)) := by
  subst hp hl; exact own_go (fun t k' => XS.istoreS X.here hx rfl hd rfl hold ho k') q
theorem o_astoreS (X : Stand p l e R s m args below meth c T locs cells slots) (hx : p.tables.exec = Jvm.exec) {k : Nat} {o : Slot} {v : Value} (hd : decode c.code pc = .ok (.astore k, 2)) (hv : v.isRef = true) (hcat : v.category = 1) (hold : Ls[k]? = some o) (ho : One o) (hl : Ls.setIfInBounds k (.val v) = l') (hp : pc + 2 = pc') (q : own_Go p e below Q T (mkF m pc' l' rest)) : own_Go p e below Q T (mkF m pc Ls (v :: rest)) := by
  subst hp hl; exact own_go (fun t k' => XS.astoreS X.here hx rfl hd rfl hv hcat hold ho k') q
end OwnKit
/-! OWN KIT, objects -/
section OwnObj
variable {p : Program} {l : Launch} {e : Env} {R : Room} {s : State} {m : MethodId} {args : Array Value} {below : List Frame} {meth : Method} {c : Code} {T T' : State} {locs : List Loc} {cells slots : Nat} {Z : State} {a0 : Array Value} {h h' : Heap}
variable {Q : Outcome → State → Prop} {pc pc' : Nat} {Ls : Array Slot} {rest : List Value}
theorem own_neO {o b : Addr} {C : String} {k : Nat} {ty : FieldType} {vs : List Int32} (E : Exa Z h o C) (wi : (Cond.instantiable C k).before a0 Z = true) (A : own_AI Z h b ty vs) : o ≠ b := by obtain ⟨cl, A, -⟩ := A; exact ne_arr E wi A
theorem own_neOJ {o b : Addr} {C : String} {k : Nat} {vs : List Int64} (E : Exa Z h o C) (wi : (Cond.instantiable C k).before a0 Z = true) (A : own_AJ Z h b vs) : o ≠ b := by obtain ⟨cl, A, -⟩ := A; exact ne_arr E wi A
theorem o_getF (X : Stand p l e R s m args below meth c T locs cells slots) (hx : p.tables.exec = Jvm.exec) (hZ : Z.Warmed39 s.vm) (eT : T.heap = h) {own O n d : String} {index : Nat} (hown : s.vm.findClass own = some m.cls) (w1 : (Cond.fieldLink own index O n d).before a0 Z = true) {a : Addr} {v : Value} (F : Fld Z h a O n d v) (hd : decode c.code pc = .ok (.getfield index, 3)) (hp : pc + 3 = pc')
    (k : ∀ T', Stand p l e R s m args below meth c T' locs cells slots → T'.heap = h → own_Go p e below Q T' (mkF m pc' Ls (v :: rest))) : own_Go p e below Q T (mkF m pc Ls (.ref a :: rest)) := by
  subst hp
  obtain ⟨T', X', e', st⟩ := getF X hx hZ hown (host := "") (Or.inl w1) Via.refl eT F (g := mkF m pc Ls (.ref a :: rest)) rfl rfl hd
  exact own_go st (k T' X' e')
theorem o_putF (X : Stand p l e R s m args below meth c T locs cells slots) (hx : p.tables.exec = Jvm.exec) (hZ : Z.Warmed39 s.vm) (eT : T.heap = h) {own O n d C : String} {index kk : Nat} {ty : FieldType} (hown : s.vm.findClass own = some m.cls) (w1 : (Cond.fieldLink own index O n d).before a0 Z = true) {a : Addr} {v old : Value} (F : Fld Z h a O n d old) (E : Exa Z h a C)
    (L : (Cond.lays C O n d).before a0 Z = true ∨ ((Cond.laysFinal C O n d).before a0 Z = true ∧ own = O ∧ meth.name = "<init>")) (wi : (Cond.instantiable C kk).before a0 Z = true) (hty : parseFieldDescriptor d = some ty) (hn : narrow ty v = v) (hf : fits ty v = true) (hd : decode c.code pc = .ok (.putfield index, 3)) (hp : pc + 3 = pc')
    (k : ∀ T' h', Stand p l e R s m args below meth c T' (locs ++ [⟨a, Jvm.RoadKit.slotOf Z O n d⟩]) cells slots → T'.heap = h' → Wr h h' a (Jvm.RoadKit.slotOf Z O n d) v → own_Go p e below Q T' (mkF m pc' Ls rest)) : own_Go p e below Q T (mkF m pc Ls (v :: .ref a :: rest)) := by
  subst hp
  obtain ⟨T', h', X', e', W, st⟩ := putF X hx hZ hown (host := "") (Or.inl w1) Via.refl eT F E L wi hty hn hf (g := mkF m pc Ls (v :: .ref a :: rest)) rfl rfl hd
  exact own_go st (k T' h' X' e' W)
theorem o_newO (X : Stand p l e R s m args below meth c T locs cells slots) (hx : p.tables.exec = Jvm.exec) (hZ : Z.Warmed39 s.vm) (eT : T.heap = h) {own C : String} {index n : Nat} (hown : s.vm.findClass own = some m.cls) (w1 : (Cond.classLink own index C).before a0 Z = true) (wi : (Cond.instantiable C n).before a0 Z = true) (wz : (Cond.initialized C).before a0 Z = true) (hd : decode c.code pc = .ok (.new index, 3)) (hp : pc + 3 = pc') (hc : cells + 1 ≤ R.cells) (hs : slots + n ≤ R.slots)
    (k : ∀ T' h' a, Stand p l e R s m args below meth c T' locs (cells + 1) (slots + n) → T'.heap = h' → h.size = a → Ext h h' → Exa Z h' a C → (∀ {O nm d : String} {ty : FieldType}, Laid Z a0 C O nm d → parseFieldDescriptor d = some ty → Fld Z h' a O nm d (defaultValue ty)) → own_Go p e below Q T' (mkF m pc' Ls (.ref a :: rest))) : own_Go p e below Q T (mkF m pc Ls rest) := by
  subst hp
  obtain ⟨T', h', X', e', E, A, D, -, st⟩ := newO X hx hZ hown w1 wi wz eT (g := mkF m pc Ls rest) rfl hd hc hs
  exact own_go st (k T' h' _ X' e' rfl E A D)
theorem o_initO (X : Stand p l e R s m args below meth c T locs cells slots) (hx : p.tables.exec = Jvm.exec) (hZ : Z.Warmed39 s.vm) (eT : T.heap = h) {own : String} {index : Nat} (hown : s.vm.findClass own = some m.cls) (w1 : (Cond.methodLink own index Lib.objectInit).before a0 Z = true) (w2 : (Cond.instanceMethod Lib.objectInit).before a0 Z = true) (w3 : (Cond.code Lib.objectInit ⟨#[0xb1]⟩ 1 none).before a0 Z = true) (hml : Ls.size = c.maxLocals) {a : Addr} {W : Nat} (hW : (rest.map fun v => v.category).sum = W)
    (hd : decode c.code pc = .ok (.invokespecial index, 3)) (hp : pc + 3 = pc') (hf : 1 ≤ R.frames) (hl : W + 12 ≤ R.locals)
    (k : ∀ T', Stand p l e R s m args below meth c T' locs cells slots → T'.heap = h → own_Go p e below Q T' (mkF m pc' Ls rest)) : own_Go p e below Q T (mkF m pc Ls (.ref a :: rest)) := by
  subst hp
  obtain ⟨T', X', e', st⟩ := initO X hx hZ hown w1 w2 w3 eT (g := mkF m pc Ls (.ref a :: rest)) rfl hml rfl hd hf (W := W) (by show 2 * 0 + _ ≤ _; rw [hW]; omega) hl
  exact own_go st (k T' X' e')
theorem o_ctor (X : Stand p l e R s m args below meth c T locs cells slots) (hx : p.tables.exec = Jvm.exec) (hZ : Z.Warmed39 s.vm) (eT : T.heap = h) {own : String} {index : Nat} {y : MethodName} {bytes : ByteArray} {maxL : Nat} {rm : Room} {W : Nat} (hy1 : y.name = "<init>") (hown : s.vm.findClass own = some m.cls)
    (w1 : (Cond.methodLink own index y).before a0 Z = true) (w2 : (Cond.instanceMethod y).before a0 Z = true) (w3 : (Cond.initialized y.cls).before a0 Z = true) (w4 : (Cond.code y bytes maxL none).before a0 Z = true) (hy : y.cls ≠ "java/lang/invoke/MethodHandle" ∧ y.cls ≠ "java/lang/invoke/VarHandle") {as' : Array Value} {K : Option Value → Heap → List Loc → Prop}
    (hM : MetFree l y (head1 [Cond.code y bytes maxL none] rm) (fun a U => a = as' ∧ Z.Warmed39 U.vm ∧ U.heap = h) (fun _ _ _ _ _ => True) (fun _ U o U' => ∃ v L, o = .returned v ∧ K v U'.heap L ∧ FrameEnd U o U' L rm.cells rm.slots))
    (hf : rm.frames + 1 ≤ R.frames) (hl : W + (maxL + 11) + rm.locals ≤ R.locals) (hml : Ls.size = c.maxLocals) {a : Addr} {argsL st : List Value} {sig : MethodDescriptor} (hpd : parseMethodDescriptor y.desc = some sig) (hlen : argsL.length = sig.parameters.length) (hst : st = argsL.reverse ++ .ref a :: rest) (has : (.ref a :: argsL).toArray = as') (hW : (rest.map fun v => v.category).sum = W)
    (hd : decode c.code pc = .ok (.invokespecial index, 3)) (hp : pc + 3 = pc') (hc : cells + rm.cells ≤ R.cells) (hs : slots + rm.slots ≤ R.slots)
    (k : ∀ v T' L, Stand p l e R s m args below meth c T' (locs ++ L) (cells + rm.cells) (slots + rm.slots) → K v T'.heap L → own_Go p e below Q T' (mkF m pc' Ls (v.toList ++ rest))) : own_Go p e below Q T (mkF m pc Ls st) := by
  subst hp hst has
  obtain ⟨v, _, ⟨T1, L1, k1, n1⟩, -, X1, ⟨Lc, hQ, l1, y1, z1⟩, st1⟩ := X.specialBack hx hy1 hown (mvT hZ w1) (mvT hZ w2) (mvT hZ w4) hy (backOf (W := W) hM hZ w4 w3 hf hl) (g := mkF m pc Ls (argsL.reverse ++ .ref a :: rest)) rfl hml (Steps.refl _) (a := a) (argsL := argsL) (rest := rest) (fun sg hsg => by cases hpd.symm.trans hsg; exact hlen) rfl (by show 2 * 0 + _ ≤ _; rw [hW]; omega) hd (fun _ _ => ⟨rfl, eT, hc, hs⟩)
  dsimp only [Pt.U, Pt.locs, Pt.cells, Pt.slots] at X1 l1 y1 z1 st1 hQ
  subst l1 y1 z1
  exact own_go (fun t k' => st1.trans k') (k v T1 Lc X1 hQ)
theorem o_callV (X : Stand p l e R s m args below meth c T locs cells slots) (hx : p.tables.exec = Jvm.exec) (hZ : Z.Warmed39 s.vm) (eT : T.heap = h) {own : String} {index : Nat} {y : MethodName} {bytes : ByteArray} {maxL : Nat} {ret : Option FieldType} {rm : Room} {W : Nat} (hown : s.vm.findClass own = some m.cls)
    (w1 : (Cond.methodLink own index y).before a0 Z = true) (w2 : (Cond.declares y).before a0 Z = true) (w5 : (Cond.selects y.cls y y).before a0 Z = true) (w6 : (Cond.instanceMethod y).before a0 Z = true) (w3 : (Cond.initialized y.cls).before a0 Z = true) (w4 : (Cond.code y bytes maxL ret).before a0 Z = true) (hy : y.cls ≠ "java/lang/invoke/MethodHandle" ∧ y.cls ≠ "java/lang/invoke/VarHandle") {as' : Array Value} {K : Option Value → Heap → List Loc → Prop}
    (hM : MetFree l y (head1 [Cond.code y bytes maxL ret] rm) (fun a U => a = as' ∧ Z.Warmed39 U.vm ∧ U.heap = h) (fun _ _ _ _ _ => True) (fun _ U o U' => ∃ v L, o = .returned v ∧ K v U'.heap L ∧ FrameEnd U o U' L rm.cells rm.slots))
    (hf : rm.frames + 1 ≤ R.frames) (hl : W + (maxL + 11) + rm.locals ≤ R.locals) (hml : Ls.size = c.maxLocals) {a : Addr} (E : Exa Z h a y.cls) {argsL st : List Value} {sig : MethodDescriptor} (hpd : parseMethodDescriptor y.desc = some sig) (hlen : argsL.length = sig.parameters.length) (hst : st = argsL.reverse ++ .ref a :: rest) (has : (.ref a :: argsL).toArray = as') (hW : (rest.map fun v => v.category).sum = W)
    (hd : decode c.code pc = .ok (.invokevirtual index, 3)) (hp : pc + 3 = pc') (hc : cells + rm.cells ≤ R.cells) (hs : slots + rm.slots ≤ R.slots)
    (k : ∀ v T' L, Stand p l e R s m args below meth c T' (locs ++ L) (cells + rm.cells) (slots + rm.slots) → K v T'.heap L → own_Go p e below Q T' (mkF m pc' Ls (v.toList ++ rest))) : own_Go p e below Q T (mkF m pc Ls st) := by
  subst hp hst has
  obtain ⟨cB, kB, qa, qb, qc⟩ := isOf hZ eT E
  obtain ⟨v, _, ⟨T1, L1, k1, n1⟩, -, X1, ⟨Lc, hQ, l1, y1, z1⟩, st1⟩ := X.virtualBack hx (y := y) (z := y) hown (mvT hZ w1) (mvT hZ w2) (notFace_of_selects (args := #[]) (mvT hZ w5)) (mvT hZ w5) (mvT hZ w6) hy (backOf (W := W) hM hZ w4 w3 hf hl) qa qc (g := mkF m pc Ls (argsL.reverse ++ .ref a :: rest)) rfl hml (Steps.refl _) (argsL := argsL) (rest := rest) (fun sg hsg => by cases hpd.symm.trans hsg; exact hlen) rfl (by show 2 * 0 + _ ≤ _; rw [hW]; omega) hd (fun _ _ => ⟨rfl, eT, hc, hs⟩)
  dsimp only [Pt.U, Pt.locs, Pt.cells, Pt.slots] at X1 l1 y1 z1 st1 hQ
  subst l1 y1 z1
  exact own_go (fun t k' => st1.trans k') (k v T1 Lc X1 hQ)
/-- a reference that may be null -/
def own_rv : Option Addr → Value
  | none => .null
  | some a => .ref a
theorem own_rv_ref (o : Option Addr) : (own_rv o).isRef = true := by cases o <;> rfl
theorem own_rv_cat (o : Option Addr) : (own_rv o).category = 1 := by cases o <;> rfl
theorem own_rv_of {v : Value} (h : v.isRef = true) : ∃ o, v = own_rv o := by
  rcases ref_cases h with rfl | ⟨a, rfl⟩
  · exact ⟨none, rfl⟩
  · exact ⟨some a, rfl⟩
theorem o_getS (X : Stand p l e R s m args below meth c T locs cells slots) (hx : p.tables.exec = Jvm.exec) (hZ : Z.Warmed39 s.vm) (eT : T.heap = h) {own O n d : String} {index : Nat} (hown : s.vm.findClass own = some m.cls) (w1 : (Cond.fieldLink own index O n d).before a0 Z = true) {v : Value} (F : Sta Z h O n d v) (hd : decode c.code pc = .ok (.getstatic index, 3)) (hp : pc + 3 = pc')
    (k : ∀ T', Stand p l e R s m args below meth c T' locs cells slots → T'.heap = h → own_Go p e below Q T' (mkF m pc' Ls (v :: rest))) : own_Go p e below Q T (mkF m pc Ls rest) := by
  subst hp
  obtain ⟨T', X', e', st⟩ := getS X hx hZ (host := "") hown w1 Via.refl eT F (g := mkF m pc Ls rest) rfl hd
  exact own_go st (k T' X' e')
end OwnObj
/-! System.arraycopy of ints into an array made since the start -/
section OwnCopy
variable {p : Program} {l : Launch} {e : Env} {R : Room} {s : State} {m : MethodId} {args : Array Value} {below : List Frame} {meth : Method} {c : Code} {T T' : State} {locs : List Loc} {cells slots : Nat} {Z : State} {a0 : Array Value} {h h' : Heap}
variable {Q : Outcome → State → Prop} {pc pc' : Nat} {Ls : Array Slot} {rest : List Value}
def own_copy (vs vd : List Int32) (sp dp n : Int32) : List Int32 := (List.range vd.length).map fun j => if dp.toNatClampNeg ≤ j ∧ j < dp.toNatClampNeg + n.toNatClampNeg then vs.getD (sp.toNatClampNeg + (j - dp.toNatClampNeg)) 0 else vd.getD j 0
def own_fits (len : Nat) (p n : Int32) : Prop := ¬ p < 0 ∧ p.toNatClampNeg + n.toNatClampNeg ≤ len
theorem o_copyI (X : Stand p l e R s m args below meth c T locs cells slots) (hx : p.tables.exec = Jvm.exec) (hZ : Z.Warmed39 s.vm) (eT : T.heap = h) {own : String} {index : Nat} (hown : s.vm.findClass own = some m.cls)
    (w1 : (Cond.methodLink own index Stand.acN).before a0 Z = true) (w2 : (Cond.native Stand.acN).before a0 Z = true) (w3 : (Cond.static Stand.acN).before a0 Z = true) (w4 : (Cond.initialized "java/lang/System").before a0 Z = true)
    {src dst : Addr} {sp dp n : Int32} {vs vd vd' : List Int32} (A : own_AI Z h src .int vs) (B : own_AI Z h dst .int vd) (hg : s.heap.size ≤ dst) (h3 : ¬ n < 0) (h4 : own_fits vs.length sp n) (h5 : own_fits vd.length dp n) (hv : own_copy vs vd sp dp n = vd')
    (hml : Ls.size = c.maxLocals) {W : Nat} (hW : (rest.map fun v => v.category).sum = W) (hd : decode c.code pc = .ok (.invokestatic index, 3)) (hp : pc + 3 = pc') (hf : 1 ≤ R.frames) (hl : W + 18 ≤ R.locals)
    (k : ∀ T' h', Stand p l e R s m args below meth c T' locs cells slots → T'.heap = h' → Keep h h' [dst] → own_AI Z h' dst .int vd' → own_Go p e below Q T' (mkF m pc' Ls rest)) : own_Go p e below Q T (mkF m pc Ls (.int n :: .int dp :: .ref dst :: .int sp :: .ref src :: rest)) := by
  subst hp hv
  obtain ⟨cs, As, qs⟩ := A
  obtain ⟨cd, Ad, qd⟩ := B
  obtain ⟨sn1, ks, hks, sComp, hsk⟩ := State.isArrayOf_alike hZ.alike As.2.1
  obtain ⟨dn1, kd, hkd, dComp, hdk⟩ := State.isArrayOf_alike hZ.alike Ad.2.1
  have ss : cs.slots.size = vs.length := own_szI qs
  have sd : cd.slots.size = vd.length := own_szI qd
  have cl (x : Int32) (hx0 : ¬ x < 0) : (x.toNatClampNeg : Int) = x.toInt := by
    have := mt Int32.lt_iff_toInt_lt.mpr hx0
    rw [Int32.toInt_zero] at this
    rw [Int32.toNatClampNeg]; omega
  have c1 := cl sp h4.1; have c2 := cl dp h5.1; have c3 := cl n h3
  have b4 := h4.2; have b5 := h5.2
  have hval (i : Nat) (hi : i < n.toNatClampNeg) : cs.slots.getD (sp.toNatClampNeg + i) .null = .int (vs.getD (sp.toNatClampNeg + i) 0) := by
    have hlt : sp.toNatClampNeg + i < vs.length := by omega
    rw [Array.getD_eq_getD_getElem?, qs, List.getElem?_toArray, List.getElem?_map, List.getElem?_eq_getElem hlt, List.getD_eq_getElem?_getD, List.getElem?_eq_getElem hlt]
    rfl
  obtain ⟨vm₁, hW₁, X₁, st⟩ := X.arraycopyK hx hown (mvT hZ w1) (mvT hZ w2) (mvT hZ w3) (mvT hZ w4) (src := src) (dst := dst) (srcPos := sp) (destPos := dp) (n := n) (cs := cs) (cd := cd) (ks := ks) (kd := kd) (sComp := sComp) (dComp := dComp) (sType := .int) (dType := .int)
    (by rw [eT]; exact As.1) (by rw [eT]; exact Ad.1) sn1 dn1 As.2.2 Ad.2.2 hks hkd hsk hdk (by decide) h4.1 h5.1 h3 (by rw [ss]; omega) (by rw [sd]; omega)
    (fun _ _ i hi => by rw [hval i hi]; exact ⟨rfl, trivial⟩) (g := mkF m pc Ls (.int n :: .int dp :: .ref dst :: .int sp :: .ref src :: rest)) rfl hml rfl hd hf (by show 2 * 0 + _ + (7 + 11) ≤ _; rw [hW]; omega)
  have X₂ := Stand.arraycopyFresh X₁ hg
  subst eT
  have facts := Cell.storeRun_facts cd dp.toNatClampNeg (cs.stretch sp.toNatClampNeg n.toNatClampNeg)
  have hlt : dst < T.heap.size := Ad.lt
  have hh : ((T.setVm vm₁).setCell dst (copied cs cd sp dp n)).heap = T.heap.setIfInBounds dst (copied cs cd sp dp n) := rfl
  refine own_go st (k _ _ X₂ rfl ?_ ?_)
  · rw [hh]
    refine ⟨by simp, fun x cx hx' hne => ?_, fun x cx hx' => ?_⟩
    · rw [Array.getElem?_setIfInBounds_ne (fun q => hne (by rw [q]; exact List.mem_singleton.mpr rfl))]; exact hx'
    · by_cases q : dst = x
      · subst q
        cases Ad.1.symm.trans hx'
        exact ⟨copied cs cd sp dp n, by simp [hlt], facts.1, facts.2.1, facts.2.2.1⟩
      · exact ⟨cx, by rw [Array.getElem?_setIfInBounds_ne q]; exact hx', rfl, rfl, rfl⟩
  · rw [hh]
    refine ⟨copied cs cd sp dp n, ⟨by simp [hlt], ?_, ?_⟩, ?_⟩
    · obtain ⟨q1, kz, q2, q3⟩ := Ad.2.1
      have f1 : (copied cs cd sp dp n).vm = cd.vm := facts.2.1
      have f2 : (copied cs cd sp dp n).cls = cd.cls := facts.1
      exact ⟨by rw [f1]; exact q1, kz, by rw [f2]; exact q2, q3⟩
    · have f1 : (copied cs cd sp dp n).vm = cd.vm := facts.2.1
      rw [f1]; exact Ad.2.2
    · apply Array.ext_getElem?
      intro j
      have g := Cell.storeRun_get cd dp.toNatClampNeg (cs.stretch sp.toNatClampNeg n.toNatClampNeg) j (by rw [Cell.stretch_length]; omega)
      rw [Cell.stretch_length] at g
      have e0 : (copied cs cd sp dp n).slots[j]? = (cd.storeRun dp.toNatClampNeg (cs.stretch sp.toNatClampNeg n.toNatClampNeg)).slots[j]? := rfl
      rw [e0, g, show ((own_copy vs vd sp dp n).map Value.int).toArray[j]? = ((own_copy vs vd sp dp n).map Value.int)[j]? from by simp, List.getElem?_map, own_copy, List.getElem?_map]
      by_cases hj : j < vd.length
      · rw [List.getElem?_range hj]
        by_cases hc : dp.toNatClampNeg ≤ j ∧ j < dp.toNatClampNeg + n.toNatClampNeg
        · rw [if_pos hc]
          have hi : j - dp.toNatClampNeg < n.toNatClampNeg := by omega
          simp only [Cell.stretch, List.getElem?_map, List.getElem?_range hi, Option.map_some, if_pos hc]
          rw [hval _ hi]
        · rw [if_neg hc, qd, List.getElem?_toArray, List.getElem?_map, List.getElem?_eq_getElem hj]
          simp only [Option.map_some, if_neg hc]
          rw [List.getD_eq_getElem?_getD, List.getElem?_eq_getElem hj]; rfl
      · have n1 : (List.range vd.length)[j]? = none := List.getElem?_eq_none (by simp; omega)
        rw [n1, if_neg (by omega), qd, List.getElem?_toArray, List.getElem?_eq_none (by simp; omega)]; rfl
end OwnCopy
/-! own facts on numbers (with kit/NumsL) -/
theorem own_tmod (x y : Int32) : (own_rem x y).toInt = x.toInt.tmod y.toInt := by
  have a := (x % y).toInt_lt; have b := (x % y).le_toInt
  rw [Int32.toInt_mod] at a b
  show (x - (x / y) * y).toInt = _
  rw [Int32.toInt_sub, Int32.toInt_mul, Int32.toInt_div, Int.bmod_mul_bmod, Int.sub_bmod_bmod, Int.mul_comm, ← Int.tmod_def]
  exact Jvm.Kit.bmod32 b a
theorem own_emod {x y : Int32} (hx : 0 ≤ x.toInt) : (own_rem x y).toInt = x.toInt % y.toInt := by rw [own_tmod, Int.tmod_eq_emod_of_nonneg hx]
theorem own_lemod {u w : Int64} (hx : 0 ≤ u.toInt) : (own_lrem u w).toInt = u.toInt % w.toInt := Jvm.Kit.i64_rem_nonneg hx
theorem own_max (x : Int32) : (x &&& 2147483647).toInt = x.toInt % 2 ^ 31 := Jvm.Kit.i32_mask x 2147483647 (by decide) (by decide)
/-- x >>> k, k a number from 1 to 31, as a division of the number without sign -/
theorem own_ushr_toNat (x y : Int32) {k : Nat} (hk : (y &&& 31).toUInt32.toNat = k) (h1 : k < 32) : (own_ushr x y).toBitVec.toNat = x.toBitVec.toNat / 2 ^ k := by
  show ((x.toUInt32 >>> (y &&& 31).toUInt32).toInt32).toBitVec.toNat = _
  rw [UInt32.toBitVec_toInt32, UInt32.toBitVec_shiftRight]
  have e : ((y &&& 31).toUInt32.toBitVec % 32).toNat = k := by
    have e0 : (y &&& 31).toUInt32.toBitVec.toNat = k := hk
    rw [BitVec.toNat_umod, e0]
    exact Nat.mod_eq_of_lt h1
  show (x.toBitVec >>> ((y &&& 31).toUInt32.toBitVec % 32).toNat).toNat = _
  rw [e, BitVec.toNat_ushiftRight, Nat.shiftRight_eq_div_pow]
theorem own_ushr_toInt (x y : Int32) {k : Nat} (hk : (y &&& 31).toUInt32.toNat = k) (h0 : 0 < k) (h1 : k < 32) : (own_ushr x y).toInt = (x.toBitVec.toNat / 2 ^ k : Nat) := by
  have h := own_ushr_toNat x y hk h1
  have hb := x.toBitVec.isLt
  have h2 : x.toBitVec.toNat / 2 ^ k ≤ x.toBitVec.toNat / 2 ^ 1 := Nat.div_le_div_left (Nat.pow_le_pow_right (by decide) h0) (by decide)
  have e : (own_ushr x y).toInt = (own_ushr x y).toBitVec.toInt := rfl
  rw [e, BitVec.toInt_eq_toNat_cond, h, if_pos (by omega)]
theorem own_in_of {n : Nat} {j : Int32} (h0 : 0 ≤ j.toInt) (h1 : j.toInt < n) : own_in n j := by
  refine ⟨fun q => ?_, ?_⟩
  · rw [Int32.lt_iff_toInt_lt] at q
    have : (0 : Int32).toInt = 0 := rfl
    omega
  · rw [Int32.toNatClampNeg]; omega
theorem own_lt {x y : Int32} : x < y ↔ x.toInt < y.toInt := Int32.lt_iff_toInt_lt
theorem own_eq {x y : Int32} : x = y ↔ x.toInt = y.toInt := Int32.toInt_inj.symm
theorem own_ltL {x y : Int64} : x < y ↔ x.toInt < y.toInt := Int64.lt_iff_toInt_lt
theorem own_eqL {x y : Int64} : x = y ↔ x.toInt = y.toInt := Int64.toInt_inj.symm
theorem own_nat_toInt {k : Nat} (h : k < 2 ^ 31) : (Int32.ofNat k).toInt = k := Int32.toInt_ofNat_of_lt (by omega)
theorem own_nat_lt {i n : Nat} (hi : i < 2 ^ 31) (hn : n < 2 ^ 31) : Int32.ofNat i < Int32.ofNat n ↔ i < n := by
  rw [own_lt, own_nat_toInt hi, own_nat_toInt hn]; omega
theorem own_nat_one (i : Nat) : Int32.ofNat i + (1 : Int32) = Int32.ofNat (i + 1) := (Int32.ofNat_add i 1).symm
theorem own_nat_clamp {k : Nat} (h : k < 2 ^ 31) : (Int32.ofNat k).toNatClampNeg = k := by
  rw [Int32.toNatClampNeg, own_nat_toInt h]; rfl
theorem own_nat_get (v : List Int32) {k : Nat} (h : k < 2 ^ 31) : own_get v (Int32.ofNat k) = v.getD k 0 := by rw [own_get, own_nat_clamp h]
theorem own_nat_in {n k : Nat} (h : k < n) (hk : k < 2 ^ 31) : own_in n (Int32.ofNat k) := own_in_of (by rw [own_nat_toInt hk]; omega) (by rw [own_nat_toInt hk]; omega)
theorem own_nat_of {x : Int32} (h : 0 ≤ x.toInt) : ∃ k : Nat, x = Int32.ofNat k ∧ (k : Int) = x.toInt ∧ k < 2 ^ 31 := by
  have u := x.toInt_lt
  refine ⟨x.toInt.toNat, ?_, by omega, by omega⟩
  rw [own_eq, own_nat_toInt (by omega)]; omega
theorem own_nat_sub {a b : Nat} (ha : a < 2 ^ 31) (h : b ≤ a) : Int32.ofNat a - Int32.ofNat b = Int32.ofNat (a - b) := by
  have e1 := own_nat_toInt ha
  have e2 := own_nat_toInt (k := b) (by omega)
  have e3 := own_nat_toInt (k := a - b) (by omega)
  rw [own_eq, Jvm.Kit.i32_sub (by omega) (by omega)]
  omega
theorem own_i2b2 (x : Int32) : own_i2b (own_i2b x) = own_i2b x := by
  show (x.toInt8.toInt32).toInt8.toInt32 = x.toInt8.toInt32
  rw [Int8.toInt8_toInt32]
/-- a hash: 31 * h + the next, count times from place i on -/
def own_h (v : List Int32) : Int32 → Nat → Nat → Int32
  | h, _, 0 => h
  | h, i, c + 1 => own_h v (31 * h + v.getD i 0) (i + 1) c
def own_p : Nat → Int32
  | 0 => 1
  | n + 1 => 31 * own_p n
def own_sum (v : List Int32) : Nat → Nat → Int32
  | _, 0 => 0
  | i, c + 1 => v.getD i 0 * own_p c + own_sum v (i + 1) c
theorem own_h_eq (v : List Int32) : ∀ (c : Nat) (h : Int32) (i : Nat), own_h v h i c = h * own_p c + own_sum v i c := by
  intro c
  induction c with
  | zero => intro h i; simp only [own_h, own_p, own_sum, Int32.mul_one, Int32.add_zero]
  | succ c ih =>
    intro h i
    rw [own_h, ih, own_p, own_sum, Int32.add_mul, Int32.mul_comm 31 h, Int32.mul_assoc, Int32.add_assoc]
theorem own_toNat (x : Int32) : (x.toBitVec.toNat : Int) = x.toInt % 2 ^ 32 := by
  have e : x.toInt = x.toBitVec.toInt := rfl
  have h := x.toBitVec.isLt
  rw [e, BitVec.toInt_eq_toNat_cond]
  split <;> omega
theorem pd_0 : parseMethodDescriptor "(II)I" = some ⟨[.int, .int], some .int⟩ := by decide +kernel
theorem pd_1 : parseMethodDescriptor "([IIII)Z" = some ⟨[(.array .int), .int, .int, .int], some .boolean⟩ := by decide +kernel
theorem pd_2 : parseMethodDescriptor "(IIIII)I" = some ⟨[.int, .int, .int, .int, .int], some .int⟩ := by decide +kernel
theorem pd_3 : parseMethodDescriptor "([I)V" = some ⟨[(.array .int)], none⟩ := by decide +kernel
theorem pd_4 : parseMethodDescriptor "()[I" = some ⟨[], some (.array .int)⟩ := by decide +kernel
theorem pd_5 : parseMethodDescriptor "([II)I" = some ⟨[(.array .int), .int], some .int⟩ := by decide +kernel
theorem d7_0 : decode prog_1_method_2_code 0 = .ok (.iload_n 1, 1) := by decide +kernel
theorem d7_1 : decode prog_1_method_2_code 1 = .ok (.istore_n 3, 1) := by decide +kernel
theorem d7_2 : decode prog_1_method_2_code 2 = .ok (.iload_n 3, 1) := by decide +kernel
theorem d7_3 : decode prog_1_method_2_code 3 = .ok (.ifCond .le 25, 3) := by decide +kernel
theorem d7_6 : decode prog_1_method_2_code 6 = .ok (.aload_n 0, 1) := by decide +kernel
theorem d7_7 : decode prog_1_method_2_code 7 = .ok (.getfield 18, 3) := by decide +kernel
theorem d7_10 : decode prog_1_method_2_code 10 = .ok (.iload_n 3, 1) := by decide +kernel
theorem d7_11 : decode prog_1_method_2_code 11 = .ok (.iaload, 1) := by decide +kernel
theorem d7_12 : decode prog_1_method_2_code 12 = .ok (.iload_n 2, 1) := by decide +kernel
theorem d7_13 : decode prog_1_method_2_code 13 = .ok (.if_icmp .eq 15, 3) := by decide +kernel
theorem d7_16 : decode prog_1_method_2_code 16 = .ok (.aload_n 0, 1) := by decide +kernel
theorem d7_17 : decode prog_1_method_2_code 17 = .ok (.getfield 22, 3) := by decide +kernel
theorem d7_20 : decode prog_1_method_2_code 20 = .ok (.iload_n 3, 1) := by decide +kernel
theorem d7_21 : decode prog_1_method_2_code 21 = .ok (.iconst 1, 1) := by decide +kernel
theorem d7_22 : decode prog_1_method_2_code 22 = .ok (.isub, 1) := by decide +kernel
theorem d7_23 : decode prog_1_method_2_code 23 = .ok (.iaload, 1) := by decide +kernel
theorem d7_24 : decode prog_1_method_2_code 24 = .ok (.istore_n 3, 1) := by decide +kernel
theorem d7_25 : decode prog_1_method_2_code 25 = .ok (.goto (-23), 3) := by decide +kernel
theorem d7_28 : decode prog_1_method_2_code 28 = .ok (.aload_n 0, 1) := by decide +kernel
theorem d7_29 : decode prog_1_method_2_code 29 = .ok (.getfield 18, 3) := by decide +kernel
theorem d7_32 : decode prog_1_method_2_code 32 = .ok (.iload_n 3, 1) := by decide +kernel
theorem d7_33 : decode prog_1_method_2_code 33 = .ok (.iaload, 1) := by decide +kernel
theorem d7_34 : decode prog_1_method_2_code 34 = .ok (.iload_n 2, 1) := by decide +kernel
theorem d7_35 : decode prog_1_method_2_code 35 = .ok (.if_icmp .ne 9, 3) := by decide +kernel
theorem d7_38 : decode prog_1_method_2_code 38 = .ok (.iload_n 3, 1) := by decide +kernel
theorem d7_39 : decode prog_1_method_2_code 39 = .ok (.iconst 1, 1) := by decide +kernel
theorem d7_40 : decode prog_1_method_2_code 40 = .ok (.iadd, 1) := by decide +kernel
theorem d7_41 : decode prog_1_method_2_code 41 = .ok (.goto 4, 3) := by decide +kernel
theorem d7_44 : decode prog_1_method_2_code 44 = .ok (.iconst 0, 1) := by decide +kernel
theorem d7_45 : decode prog_1_method_2_code 45 = .ok (.ireturn, 1) := by decide +kernel
section Body7
variable {p : Program} {l : Launch} {e : Env} {s : State} {m : MethodId} {args : Array Value} {below : List Frame} {meth : Method} {c : Code} {Z : State} {ag : Array Value} {K : Option Value → Heap → List Loc → Prop}
abbrev R7 : Room := { frames := 0, cells := 0, slots := 0, locals := 0 }
abbrev cc7 : Nat := 0
abbrev ss7 : Nat := 0
def f7_45 : Int32 := (0 : Int32)
set_option maxRecDepth 65536 in
set_option maxHeartbeats 40000000 in
theorem b7_45 (C : own_Cx p s m meth c Z ag prog_1_method_2_code 4 "com/example/bordertable/bordertable/BorderCore" (some .int) "advance") {T : State} {h : Heap} {z0 : Slot} {z1 : Slot} {z2 : Slot} {z3 : Slot} (X : Stand p l e R7 s m args below meth c T [] 0 0) (eT : T.heap = h) (hz0 : One z0) (hz1 : One z1) (hz2 : One z2) (hz3 : One z3) (hK : K (some (.int (f7_45))) h []) : own_Go p e below (own_Q s K cc7 ss7) T (mkF m 45 #[z0, z1, z2, z3] [(.int (0 : Int32))]) := by
  obtain ⟨hx, hZ, hw, hby, hml, hown, hret, hlk, hnm⟩ := id C
  unfold f7_45 at hK
  exact o_retI X hx hret hlk (hb hby d7_45) (by decide) (by decide) eT (hK)

def f7_45_4 (t0 : Int32) : Int32 := t0
set_option maxRecDepth 65536 in
set_option maxHeartbeats 40000000 in
theorem b7_45_4 (C : own_Cx p s m meth c Z ag prog_1_method_2_code 4 "com/example/bordertable/bordertable/BorderCore" (some .int) "advance") {T : State} {h : Heap} {z0 : Slot} {z1 : Slot} {z2 : Slot} {z3 : Slot} (t0 : Int32) (X : Stand p l e R7 s m args below meth c T [] 0 0) (eT : T.heap = h) (hz0 : One z0) (hz1 : One z1) (hz2 : One z2) (hz3 : One z3) (hK : K (some (.int (f7_45_4 t0))) h []) : own_Go p e below (own_Q s K cc7 ss7) T (mkF m 45 #[z0, z1, z2, z3] [(.int t0)]) := by
  obtain ⟨hx, hZ, hw, hby, hml, hown, hret, hlk, hnm⟩ := id C
  unfold f7_45_4 at hK
  exact o_retI X hx hret hlk (hb hby d7_45) (by decide) (by decide) eT (hK)

def f7_28 (v1 : List Int32) (v2 : List Int32) (x2 : Int32) (x3 : Int32) : Int32 := (if (own_get v2 x3) = x2 then (f7_45_4 (x3 + (1 : Int32))) else f7_45)
def s7_28 (v1 : List Int32) (v2 : List Int32) (x2 : Int32) (x3 : Int32) : Prop := (own_in v2.length x3 ∧ True)
set_option maxRecDepth 65536 in
set_option maxHeartbeats 40000000 in
theorem b7_28 (C : own_Cx p s m meth c Z ag prog_1_method_2_code 4 "com/example/bordertable/bordertable/BorderCore" (some .int) "advance") {T : State} {h : Heap} {z1 : Slot} (a0 : Addr) (a1 : Addr) (v1 : List Int32) (a2 : Addr) (v2 : List Int32) (x2 : Int32) (x3 : Int32) (X : Stand p l e R7 s m args below meth c T [] 0 0) (eT : T.heap = h) (Aa1 : own_AI Z h a1 .int v1) (Aa2 : own_AI Z h a2 .int v2) (Ea0 : Exa Z h a0 "com/example/bordertable/bordertable/BorderCore") (Fa0_border : Fld Z h a0 "com/example/bordertable/bordertable/BorderCore" "border" "[I" (.ref a1)) (Fa0_pattern : Fld Z h a0 "com/example/bordertable/bordertable/BorderCore" "pattern" "[I" (.ref a2)) (hz1 : One z1) (hs : s7_28 v1 v2 x2 x3) (hK : K (some (.int (f7_28 v1 v2 x2 x3))) h []) : own_Go p e below (own_Q s K cc7 ss7) T (mkF m 28 #[.val (.ref a0), z1, .val (.int x2), .val (.int x3)] []) := by
  obtain ⟨hx, hZ, hw, hby, hml, hown, hret, hlk, hnm⟩ := id C
  unfold f7_28 at hK
  unfold s7_28 at hs
  refine o_aloadN (pc' := 29) X hx (hb hby d7_28) rfl rfl rfl ?_
  refine o_getF (pc' := 32) X hx hZ eT hown (hw _ (List.mem_of_getElem? (i := 14) rfl)) Fa0_pattern (hb hby d7_29) rfl fun T2 X2 e2 => ?_
  refine o_iloadN (pc' := 33) X2 hx (hb hby d7_32) rfl rfl ?_
  refine o_iaload (pc' := 34)  X2 hx hZ e2 Aa2 hs.1 (hb hby d7_33) rfl rfl ?_
  refine o_iloadN (pc' := 35) X2 hx (hb hby d7_34) rfl rfl ?_
  refine o_icN (P := (own_get v2 x3) = x2) (pc1 := 44) (pc2 := 38) X2 hx XT.ii_ne_f XT.ii_ne_t (hb hby d7_35) (by decide) (by decide) rfl (fun c3 => ?_) (fun c3 => ?_)
  · rw [if_neg c3] at hK
    refine o_iconst (pc' := 45) (x := (0 : Int32)) X2 hx (hb hby d7_44) (by decide) rfl ?_
    exact b7_45 C X2 e2 (One.val rfl) hz1 (One.val rfl) (One.val rfl) hK
  · rw [if_pos c3] at hK
    refine o_iloadN (pc' := 39) X2 hx (hb hby d7_38) rfl rfl ?_
    refine o_iconst (pc' := 40) (x := (1 : Int32)) X2 hx (hb hby d7_39) (by decide) rfl ?_
    refine o_iadd (pc' := 41)  X2 hx (hb hby d7_40) rfl rfl ?_
    refine o_goto (pc' := 45) X2 hx (hb hby d7_41) (by decide) (by decide) ?_
    exact b7_45_4 C (x3 + (1 : Int32)) X2 e2 (One.val rfl) hz1 (One.val rfl) (One.val rfl) hK

def f7_2 : Nat → List Int32 → List Int32 → Int32 → Int32 → Int32
  | 0, _, _, _, _ => 0
  | n + 1, v1, v2, x2, x3 => (if (0 : Int32) < x3 then (if (own_get v2 x3) = x2 then (f7_28 v1 v2 x2 x3) else (f7_2 n v1 v2 x2 (own_get v1 (x3 - (1 : Int32))))) else (f7_28 v1 v2 x2 x3))
def s7_2 : Nat → List Int32 → List Int32 → Int32 → Int32 → Prop
  | 0, _, _, _, _ => False
  | n + 1, v1, v2, x2, x3 => (((0 : Int32) < x3 → (own_in v2.length x3 ∧ (((own_get v2 x3) = x2 → s7_28 v1 v2 x2 x3) ∧ (¬ ((own_get v2 x3) = x2) → (own_in v1.length (x3 - (1 : Int32)) ∧ s7_2 n v1 v2 x2 (own_get v1 (x3 - (1 : Int32)))))))) ∧ (¬ ((0 : Int32) < x3) → s7_28 v1 v2 x2 x3))
set_option maxRecDepth 65536 in
set_option maxHeartbeats 40000000 in
theorem b7_2 (C : own_Cx p s m meth c Z ag prog_1_method_2_code 4 "com/example/bordertable/bordertable/BorderCore" (some .int) "advance") :
    ∀ (n : Nat) {T : State} {h : Heap} {z1 : Slot} (a0 : Addr) (a1 : Addr) (v1 : List Int32) (a2 : Addr) (v2 : List Int32) (x2 : Int32) (x3 : Int32) (X : Stand p l e R7 s m args below meth c T [] 0 0) (eT : T.heap = h) (Aa1 : own_AI Z h a1 .int v1) (Aa2 : own_AI Z h a2 .int v2) (Ea0 : Exa Z h a0 "com/example/bordertable/bordertable/BorderCore") (Fa0_border : Fld Z h a0 "com/example/bordertable/bordertable/BorderCore" "border" "[I" (.ref a1)) (Fa0_pattern : Fld Z h a0 "com/example/bordertable/bordertable/BorderCore" "pattern" "[I" (.ref a2)) (hz1 : One z1) (hs : s7_2 n v1 v2 x2 x3) (hK : K (some (.int (f7_2 n v1 v2 x2 x3))) h []), own_Go p e below (own_Q s K cc7 ss7) T (mkF m 2 #[.val (.ref a0), z1, .val (.int x2), .val (.int x3)] []) := by
  intro n
  induction n with
  | zero => intros; rename_i hs _; exact hs.elim
  | succ n ih =>
    intro T h z1 a0 a1 v1 a2 v2 x2 x3 X eT Aa1 Aa2 Ea0 Fa0_border Fa0_pattern hz1 hs hK
    obtain ⟨hx, hZ, hw, hby, hml, hown, hret, hlk, hnm⟩ := id C
    unfold f7_2 at hK
    unfold s7_2 at hs
    refine o_iloadN (pc' := 3) X hx (hb hby d7_2) rfl rfl ?_
    refine o_ifN (P := (0 : Int32) < x3) (pc1 := 28) (pc2 := 6) X hx XT.i0_le_f XT.i0_le_t (hb hby d7_3) (by decide) (by decide) rfl (fun c1 => ?_) (fun c1 => ?_)
    · rw [if_neg c1] at hK
      exact b7_28 C a0 a1 v1 a2 v2 x2 x3 X eT Aa1 Aa2 Ea0 Fa0_border Fa0_pattern hz1 (hs.2 c1) hK
    · rw [if_pos c1] at hK
      refine o_aloadN (pc' := 7) X hx (hb hby d7_6) rfl rfl rfl ?_
      refine o_getF (pc' := 10) X hx hZ eT hown (hw _ (List.mem_of_getElem? (i := 14) rfl)) Fa0_pattern (hb hby d7_7) rfl fun T4 X4 e4 => ?_
      refine o_iloadN (pc' := 11) X4 hx (hb hby d7_10) rfl rfl ?_
      refine o_iaload (pc' := 12)  X4 hx hZ e4 Aa2 (hs.1 c1).1 (hb hby d7_11) rfl rfl ?_
      refine o_iloadN (pc' := 13) X4 hx (hb hby d7_12) rfl rfl ?_
      refine o_icP (P := (own_get v2 x3) = x2) (pc1 := 28) (pc2 := 16) X4 hx XT.ii_eq_t XT.ii_eq_f (hb hby d7_13) (by decide) (by decide) rfl (fun c5 => ?_) (fun c5 => ?_)
      · rw [if_pos c5] at hK
        exact b7_28 C a0 a1 v1 a2 v2 x2 x3 X4 e4 Aa1 Aa2 Ea0 Fa0_border Fa0_pattern hz1 ((hs.1 c1).2.1 c5) hK
      · rw [if_neg c5] at hK
        refine o_aloadN (pc' := 17) X4 hx (hb hby d7_16) rfl rfl rfl ?_
        refine o_getF (pc' := 20) X4 hx hZ e4 hown (hw _ (List.mem_of_getElem? (i := 16) rfl)) Fa0_border (hb hby d7_17) rfl fun T6 X6 e6 => ?_
        refine o_iloadN (pc' := 21) X6 hx (hb hby d7_20) rfl rfl ?_
        refine o_iconst (pc' := 22) (x := (1 : Int32)) X6 hx (hb hby d7_21) (by decide) rfl ?_
        refine o_isub (pc' := 23)  X6 hx (hb hby d7_22) rfl rfl ?_
        refine o_iaload (pc' := 24)  X6 hx hZ e6 Aa1 ((hs.1 c1).2.2 c5).1 (hb hby d7_23) rfl rfl ?_
        refine o_istoreN (pc' := 25) (l' := #[.val (.ref a0), z1, .val (.int x2), .val (.int (own_get v1 (x3 - (1 : Int32))))]) X6 hx (hb hby d7_24) rfl rfl ?_
        refine o_goto (pc' := 2) X6 hx (hb hby d7_25) (by decide) (by decide) ?_
        exact ih a0 a1 v1 a2 v2 x2 (own_get v1 (x3 - (1 : Int32))) X6 e6 Aa1 Aa2 Ea0 Fa0_border Fa0_pattern hz1 ((hs.1 c1).2.2 c5).2 hK

def f7_0 (v_border : List Int32) (v_pattern : List Int32) (p1 : Int32) (p2 : Int32) : Int32 := (f7_2 8 v_border v_pattern p2 p1)
def s7_0 (v_border : List Int32) (v_pattern : List Int32) (p1 : Int32) (p2 : Int32) : Prop := s7_2 8 v_border v_pattern p2 p1
set_option maxRecDepth 65536 in
set_option maxHeartbeats 40000000 in
theorem b7_0 (C : own_Cx p s m meth c Z ag prog_1_method_2_code 4 "com/example/bordertable/bordertable/BorderCore" (some .int) "advance") {T : State} {h : Heap} (a0 : Addr) (r_border : Addr) (v_border : List Int32) (r_pattern : Addr) (v_pattern : List Int32) (p1 : Int32) (p2 : Int32) (X : Stand p l e R7 s m args below meth c T [] 0 0) (eT : T.heap = h) (Ar_border : own_AI Z h r_border .int v_border) (Ar_pattern : own_AI Z h r_pattern .int v_pattern) (Ea0 : Exa Z h a0 "com/example/bordertable/bordertable/BorderCore") (Fa0_border : Fld Z h a0 "com/example/bordertable/bordertable/BorderCore" "border" "[I" (.ref r_border)) (Fa0_pattern : Fld Z h a0 "com/example/bordertable/bordertable/BorderCore" "pattern" "[I" (.ref r_pattern)) (hs : s7_0 v_border v_pattern p1 p2) (hK : K (some (.int (f7_0 v_border v_pattern p1 p2))) h []) : own_Go p e below (own_Q s K cc7 ss7) T (mkF m 0 #[.val (.ref a0), .val (.int p1), .val (.int p2), .unset] []) := by
  obtain ⟨hx, hZ, hw, hby, hml, hown, hret, hlk, hnm⟩ := id C
  unfold f7_0 at hK
  unfold s7_0 at hs
  refine o_iloadN (pc' := 1) X hx (hb hby d7_0) rfl rfl ?_
  refine o_istoreN (pc' := 2) (l' := #[.val (.ref a0), .val (.int p1), .val (.int p2), .val (.int p1)]) X hx (hb hby d7_1) rfl rfl ?_
  exact b7_2 C 8 a0 r_border v_border r_pattern v_pattern p2 p1 X eT Ar_border Ar_pattern Ea0 Fa0_border Fa0_pattern (One.val rfl) hs hK

end Body7
theorem pn_BorderCore : plainName "com/example/bordertable/bordertable/BorderCore" = true := by first | (simp [plainName, overriddenIn]; done) | decide +kernel
theorem ef_7 (m : MethodId) (a0 : Addr) (p1 : Int32) (p2 : Int32) : entryFrame m #[(.ref a0), (.int p1), (.int p2)] 4 = mkF m 0 #[.val (.ref a0), .val (.int p1), .val (.int p2), .unset] [] := by first | (simp [entryFrame, mkF, argsToLocals, Value.category]; done) | rfl
set_option maxRecDepth 65536 in
set_option maxHeartbeats 40000000 in
theorem rm7 (l : Launch) (Z : State) (ag : Array Value) (hw : ∀ d ∈ tables_1, d.before ag Z = true) (ws : List Jvm.Cond) (a0 : Addr) (r_border : Addr) (v_border : List Int32) (r_pattern : Addr) (v_pattern : List Int32) (p1 : Int32) (p2 : Int32) (h0 : Heap) (Ar_border : own_AI Z h0 r_border .int v_border) (Ar_pattern : own_AI Z h0 r_pattern .int v_pattern) (Ea0 : Exa Z h0 a0 "com/example/bordertable/bordertable/BorderCore") (Fa0_border : Fld Z h0 a0 "com/example/bordertable/bordertable/BorderCore" "border" "[I" (.ref r_border)) (Fa0_pattern : Fld Z h0 a0 "com/example/bordertable/bordertable/BorderCore" "pattern" "[I" (.ref r_pattern)) (hs : s7_0 v_border v_pattern p1 p2) :
    MetFree l (⟨"com/example/bordertable/bordertable/BorderCore", "advance", "(II)I"⟩ : MethodName) (head1 (Jvm.Cond.code (⟨"com/example/bordertable/bordertable/BorderCore", "advance", "(II)I"⟩ : MethodName) prog_1_method_2_code 4 (some .int) :: ws) R7) (fun a U => a = #[(.ref a0), (.int p1), (.int p2)] ∧ Z.Warmed39 U.vm ∧ U.heap = h0) (fun _ _ _ _ _ => True) (fun _ U o U' => ∃ v L, o = .returned v ∧ own_KP (some (.int (f7_0 v_border v_pattern p1 p2))) h0 v U'.heap L ∧ FrameEnd U o U' L R7.cells R7.slots) := by
  refine MetFree.of_bodySF (plainFor_of_name pn_BorderCore) hisR ?_
  intro p e s m args below meth c s₁ Bd hml0 hP hK
  obtain ⟨rfl, hZ, hh⟩ := hP
  have C : own_Cx p s m meth c Z ag prog_1_method_2_code 4 "com/example/bordertable/bordertable/BorderCore" (some .int) "advance" := ⟨Bd.exec, hZ, hw, Bd.bytes, hml0, findClass_of_methodNamed Bd.named, Bd.returns, Bd.notSynchronized, (name_of_methodNamed Bd.named Bd.method).1⟩
  have X0 : Stand p l e R7 s m #[(.ref a0), (.int p1), (.int p2)] below meth c s₁ [] 0 0 := Stand.of_body Bd
  have e0 : s₁.heap = h0 := by rw [← hh, Bd.state]; rfl
  rw [ef_7]
  exact b7_0 (K := own_KP (some (.int (f7_0 v_border v_pattern p1 p2))) h0) C a0 r_border v_border r_pattern v_pattern p1 p2 X0 e0 Ar_border Ar_pattern Ea0 Fa0_border Fa0_pattern hs ⟨rfl, rfl, rfl⟩

theorem d2_0 : decode prog_1_method_1_code 0 = .ok (.aload_n 0, 1) := by decide +kernel
theorem d2_1 : decode prog_1_method_1_code 1 = .ok (.invokespecial 5, 3) := by decide +kernel
theorem d2_4 : decode prog_1_method_1_code 4 = .ok (.aload_n 1, 1) := by decide +kernel
theorem d2_5 : decode prog_1_method_1_code 5 = .ok (.arraylength, 1) := by decide +kernel
theorem d2_6 : decode prog_1_method_1_code 6 = .ok (.ifCond .ne 13, 3) := by decide +kernel
theorem d2_9 : decode prog_1_method_1_code 9 = .ok (.new 11, 3) := by decide +kernel
theorem d2_12 : decode prog_1_method_1_code 12 = .ok (.dup, 1) := by decide +kernel
theorem d2_13 : decode prog_1_method_1_code 13 = .ok (.ldc 13, 2) := by decide +kernel
theorem d2_15 : decode prog_1_method_1_code 15 = .ok (.invokespecial 15, 3) := by decide +kernel
theorem d2_18 : decode prog_1_method_1_code 18 = .ok (.athrow, 1) := by decide +kernel
theorem d2_19 : decode prog_1_method_1_code 19 = .ok (.aload_n 0, 1) := by decide +kernel
theorem d2_20 : decode prog_1_method_1_code 20 = .ok (.aload_n 1, 1) := by decide +kernel
theorem d2_21 : decode prog_1_method_1_code 21 = .ok (.putfield 18, 3) := by decide +kernel
theorem d2_24 : decode prog_1_method_1_code 24 = .ok (.aload_n 0, 1) := by decide +kernel
theorem d2_25 : decode prog_1_method_1_code 25 = .ok (.aload_n 1, 1) := by decide +kernel
theorem d2_26 : decode prog_1_method_1_code 26 = .ok (.arraylength, 1) := by decide +kernel
theorem d2_27 : decode prog_1_method_1_code 27 = .ok (.newarray .int, 2) := by decide +kernel
theorem d2_29 : decode prog_1_method_1_code 29 = .ok (.putfield 22, 3) := by decide +kernel
theorem d2_32 : decode prog_1_method_1_code 32 = .ok (.iconst 1, 1) := by decide +kernel
theorem d2_33 : decode prog_1_method_1_code 33 = .ok (.istore_n 2, 1) := by decide +kernel
theorem d2_34 : decode prog_1_method_1_code 34 = .ok (.iload_n 2, 1) := by decide +kernel
theorem d2_35 : decode prog_1_method_1_code 35 = .ok (.aload_n 1, 1) := by decide +kernel
theorem d2_36 : decode prog_1_method_1_code 36 = .ok (.arraylength, 1) := by decide +kernel
theorem d2_37 : decode prog_1_method_1_code 37 = .ok (.if_icmp .ge 30, 3) := by decide +kernel
theorem d2_40 : decode prog_1_method_1_code 40 = .ok (.aload_n 0, 1) := by decide +kernel
theorem d2_41 : decode prog_1_method_1_code 41 = .ok (.getfield 22, 3) := by decide +kernel
theorem d2_44 : decode prog_1_method_1_code 44 = .ok (.iload_n 2, 1) := by decide +kernel
theorem d2_45 : decode prog_1_method_1_code 45 = .ok (.aload_n 0, 1) := by decide +kernel
theorem d2_46 : decode prog_1_method_1_code 46 = .ok (.aload_n 0, 1) := by decide +kernel
theorem d2_47 : decode prog_1_method_1_code 47 = .ok (.getfield 22, 3) := by decide +kernel
theorem d2_50 : decode prog_1_method_1_code 50 = .ok (.iload_n 2, 1) := by decide +kernel
theorem d2_51 : decode prog_1_method_1_code 51 = .ok (.iconst 1, 1) := by decide +kernel
theorem d2_52 : decode prog_1_method_1_code 52 = .ok (.isub, 1) := by decide +kernel
theorem d2_53 : decode prog_1_method_1_code 53 = .ok (.iaload, 1) := by decide +kernel
theorem d2_54 : decode prog_1_method_1_code 54 = .ok (.aload_n 1, 1) := by decide +kernel
theorem d2_55 : decode prog_1_method_1_code 55 = .ok (.iload_n 2, 1) := by decide +kernel
theorem d2_56 : decode prog_1_method_1_code 56 = .ok (.iaload, 1) := by decide +kernel
theorem d2_57 : decode prog_1_method_1_code 57 = .ok (.invokevirtual 25, 3) := by decide +kernel
theorem d2_60 : decode prog_1_method_1_code 60 = .ok (.iastore, 1) := by decide +kernel
theorem d2_61 : decode prog_1_method_1_code 61 = .ok (.iinc 2 1, 3) := by decide +kernel
theorem d2_64 : decode prog_1_method_1_code 64 = .ok (.goto (-30), 3) := by decide +kernel
theorem d2_67 : decode prog_1_method_1_code 67 = .ok (.return_, 1) := by decide +kernel
section Body2
variable {p : Program} {l : Launch} {e : Env} {s : State} {m : MethodId} {args : Array Value} {below : List Frame} {meth : Method} {c : Code} {Z : State} {ag : Array Value} {K : Option Value → Heap → List Loc → Prop}
abbrev R2 : Room := { frames := 1, cells := 1, slots := 8, locals := 17 }
abbrev cc2 : Nat := 1
abbrev ss2 : Nat := 8
def f2_34 : Nat → List Int32 → List Int32 → Int32 → List Int32
  | 0, _, _, _ => []
  | n + 1, v1, v2, x2 => (if x2 < (own_len v2.length) then (f2_34 n (own_set v1 x2 (f7_0 v1 v2 (own_get v1 (x2 - (1 : Int32))) (own_get v2 x2))) v2 (x2 + (1 : Int32))) else v1)
def s2_34 : Nat → List Int32 → List Int32 → Int32 → Prop
  | 0, _, _, _ => False
  | n + 1, v1, v2, x2 => ((x2 < (own_len v2.length) → (own_in v1.length (x2 - (1 : Int32)) ∧ own_in v2.length x2 ∧ (s7_0 v1 v2 (own_get v1 (x2 - (1 : Int32))) (own_get v2 x2)) ∧ own_in v1.length x2 ∧ s2_34 n (own_set v1 x2 (f7_0 v1 v2 (own_get v1 (x2 - (1 : Int32))) (own_get v2 x2))) v2 (x2 + (1 : Int32)))) ∧ (¬ (x2 < (own_len v2.length)) → True))
set_option maxRecDepth 65536 in
set_option maxHeartbeats 40000000 in
theorem b2_34 (C : own_Cx p s m meth c Z ag prog_1_method_1_code 3 "com/example/bordertable/bordertable/BorderCore" none "<init>") :
    ∀ (n : Nat) {T : State} {h : Heap} {h0 : Heap} {L : List Loc} (a0 : Addr) (a1 : Addr) (v1 : List Int32) (a2 : Addr) (v2 : List Int32) (x2 : Int32) (X : Stand p l e R2 s m args below meth c T L 1 8) (eT : T.heap = h) (hN : ∀ y ∈ L, y.base = a0) (hKp : Keep h0 h [a0]) (hs0 : s.heap = h0) (Aa1 : own_AI Z h a1 .int v1) (ga1 : s.heap.size ≤ a1) (Aa2 : own_AI Z h a2 .int v2) (Ea0 : Exa Z h a0 "com/example/bordertable/bordertable/BorderCore") (Fa0_border : Fld Z h a0 "com/example/bordertable/bordertable/BorderCore" "border" "[I" (.ref a1)) (Fa0_pattern : Fld Z h a0 "com/example/bordertable/bordertable/BorderCore" "pattern" "[I" (.ref a2)) (ne_a2_a1 : a2 ≠ a1) (hs : s2_34 n v1 v2 x2) (hK : ∀ h' L' (u_border : Addr), (∀ y ∈ L', y.base = a0) → Keep h0 h' [a0] → Exa Z h' a0 "com/example/bordertable/bordertable/BorderCore" → Fld Z h' a0 "com/example/bordertable/bordertable/BorderCore" "border" "[I" (.ref u_border) → own_AI Z h' u_border .int (f2_34 n v1 v2 x2) → h0.size ≤ u_border → Fld Z h' a0 "com/example/bordertable/bordertable/BorderCore" "pattern" "[I" (.ref a2) → K none h' L'), own_Go p e below (own_Q s K cc2 ss2) T (mkF m 34 #[.val (.ref a0), .val (.ref a2), .val (.int x2)] []) := by
  intro n
  induction n with
  | zero => intros; rename_i hs _; exact hs.elim
  | succ n ih =>
    intro T h h0 L a0 a1 v1 a2 v2 x2 X eT hN hKp hs0 Aa1 ga1 Aa2 Ea0 Fa0_border Fa0_pattern ne_a2_a1 hs hK
    obtain ⟨hx, hZ, hw, hby, hml, hown, hret, hlk, hnm⟩ := id C
    unfold f2_34 at hK
    unfold s2_34 at hs
    refine o_iloadN (pc' := 35) X hx (hb hby d2_34) rfl rfl ?_
    refine o_aloadN (pc' := 36) X hx (hb hby d2_35) rfl rfl rfl ?_
    refine o_alenI (pc' := 37)  X hx hZ eT Aa2 (hb hby d2_36) rfl rfl ?_
    refine o_icN (P := x2 < (own_len v2.length)) (pc1 := 67) (pc2 := 40) X hx XT.ii_ge_f XT.ii_ge_t (hb hby d2_37) (by decide) (by decide) rfl (fun c12 => ?_) (fun c12 => ?_)
    · rw [if_neg c12] at hK
      exact o_retV X hx hret hlk (hb hby d2_67) (by decide) (by decide) eT (hK _ _ a1 hN hKp Ea0 Fa0_border Aa1 (by rw [← hs0]; exact ga1) Fa0_pattern)
    · rw [if_pos c12] at hK
      refine o_aloadN (pc' := 41) X hx (hb hby d2_40) rfl rfl rfl ?_
      refine o_getF (pc' := 44) X hx hZ eT hown (hw _ (List.mem_of_getElem? (i := 16) rfl)) Fa0_border (hb hby d2_41) rfl fun T13 X13 e13 => ?_
      refine o_iloadN (pc' := 45) X13 hx (hb hby d2_44) rfl rfl ?_
      refine o_aloadN (pc' := 46) X13 hx (hb hby d2_45) rfl rfl rfl ?_
      refine o_aloadN (pc' := 47) X13 hx (hb hby d2_46) rfl rfl rfl ?_
      refine o_getF (pc' := 50) X13 hx hZ e13 hown (hw _ (List.mem_of_getElem? (i := 16) rfl)) Fa0_border (hb hby d2_47) rfl fun T14 X14 e14 => ?_
      refine o_iloadN (pc' := 51) X14 hx (hb hby d2_50) rfl rfl ?_
      refine o_iconst (pc' := 52) (x := (1 : Int32)) X14 hx (hb hby d2_51) (by decide) rfl ?_
      refine o_isub (pc' := 53)  X14 hx (hb hby d2_52) rfl rfl ?_
      refine o_iaload (pc' := 54)  X14 hx hZ e14 Aa1 (hs.1 c12).1 (hb hby d2_53) rfl rfl ?_
      refine o_aloadN (pc' := 55) X14 hx (hb hby d2_54) rfl rfl rfl ?_
      refine o_iloadN (pc' := 56) X14 hx (hb hby d2_55) rfl rfl ?_
      refine o_iaload (pc' := 57)  X14 hx hZ e14 Aa2 (hs.1 c12).2.1 (hb hby d2_56) rfl rfl ?_
      refine o_callV (W := 2) (pc' := 60) (a := a0) (argsL := [(.int (own_get v1 (x2 - (1 : Int32)))), (.int (own_get v2 x2))]) (rest := [(.int x2), (.ref a1)]) X14 hx hZ e14 hown (hw _ (List.mem_of_getElem? (i := 33) rfl)) (hw _ (List.mem_of_getElem? (i := 34) rfl)) (hw _ (List.mem_of_getElem? (i := 36) rfl)) (hw _ (List.mem_of_getElem? (i := 35) rfl)) (hw _ (List.mem_of_getElem? (i := 7) rfl)) (hw _ (List.mem_of_getElem? (i := 37) rfl)) (by decide) (rm7 l Z ag hw [] a0 a1 v1 a2 v2 (own_get v1 (x2 - (1 : Int32))) (own_get v2 x2) h Aa1 Aa2 Ea0 Fa0_border Fa0_pattern (hs.1 c12).2.2.1) (by decide) (by decide) (by rw [hml]; rfl) Ea0 pd_0 rfl rfl rfl rfl (hb hby d2_57) rfl (by decide) (by decide) fun v15 T15 L15 X15 k15 => ?_
      obtain ⟨rfl, e15, rfl⟩ := k15
      have Y15 : Stand p l e R2 s m args below meth c T15 L 1 8 := own_nil X15
      show own_Go p e below _ T15 (mkF m 60 #[.val (.ref a0), .val (.ref a2), .val (.int x2)] [(.int (f7_0 v1 v2 (own_get v1 (x2 - (1 : Int32))) (own_get v2 x2))), (.int x2), (.ref a1)])
      refine o_iastore (pc' := 61) (vs' := (own_set v1 x2 (f7_0 v1 v2 (own_get v1 (x2 - (1 : Int32))) (own_get v2 x2)))) Y15 hx hZ e15 Aa1 (hs.1 c12).2.2.2.1 (hb hby d2_60) rfl rfl fun T16 h16 X16 e16 W16 A16 => ?_
      have B16_a2 := Aa2.other W16 ne_a2_a1
      have G16_a0_border := Fld.other W16 Fa0_border (Or.inl (own_neO Ea0 (hw _ (List.mem_of_getElem? (i := 6) rfl)) Aa1))
      have G16_a0_pattern := Fld.other W16 Fa0_pattern (Or.inl (own_neO Ea0 (hw _ (List.mem_of_getElem? (i := 6) rfl)) Aa1))
      have H16_a0 := Exa.wr W16 Ea0
      have Y16 := own_drop X16 ga1
      have P16 := hKp.wr W16 (Or.inr (by rw [← hs0]; exact ga1))
      refine o_iinc (pc' := 64) (y := (x2 + (1 : Int32))) (l' := #[.val (.ref a0), .val (.ref a2), .val (.int (x2 + (1 : Int32)))]) Y16 hx (hb hby d2_61) rfl rfl rfl rfl ?_
      refine o_goto (pc' := 34) Y16 hx (hb hby d2_64) (by decide) (by decide) ?_
      exact ih a0 a1 (own_set v1 x2 (f7_0 v1 v2 (own_get v1 (x2 - (1 : Int32))) (own_get v2 x2))) a2 v2 (x2 + (1 : Int32)) Y16 e16 hN P16 hs0 A16 ga1 B16_a2 H16_a0 G16_a0_border G16_a0_pattern ne_a2_a1 (hs.1 c12).2.2.2.2 hK

def f2_0 (v1 : List Int32) : List Int32 := (if (own_len v1.length) = (0 : Int32) then [] else (f2_34 8 (List.replicate (own_len v1.length).toNatClampNeg (0 : Int32)) v1 (1 : Int32)))
def s2_0 (v1 : List Int32) : Prop := (((own_len v1.length) = (0 : Int32) → False) ∧ (¬ ((own_len v1.length) = (0 : Int32)) → (¬ ((own_len v1.length) < 0) ∧ (own_len v1.length).toNatClampNeg ≤ 8 ∧ s2_34 8 (List.replicate (own_len v1.length).toNatClampNeg (0 : Int32)) v1 (1 : Int32))))
set_option maxRecDepth 65536 in
set_option maxHeartbeats 40000000 in
theorem b2_0 (C : own_Cx p s m meth c Z ag prog_1_method_1_code 3 "com/example/bordertable/bordertable/BorderCore" none "<init>") {T : State} {h : Heap} {h0 : Heap} {L : List Loc} (a0 : Addr) (a1 : Addr) (v1 : List Int32) (X : Stand p l e R2 s m args below meth c T L 0 0) (eT : T.heap = h) (hN : ∀ y ∈ L, y.base = a0) (hKp : Keep h0 h [a0]) (hs0 : s.heap = h0) (Aa1 : own_AI Z h a1 .int v1) (Ea0 : Exa Z h a0 "com/example/bordertable/bordertable/BorderCore") (Fa0_border : Fld Z h a0 "com/example/bordertable/bordertable/BorderCore" "border" "[I" .null) (Fa0_pattern : Fld Z h a0 "com/example/bordertable/bordertable/BorderCore" "pattern" "[I" .null) (hs : s2_0 v1) (hK : ∀ h' L' (u_border : Addr), (∀ y ∈ L', y.base = a0) → Keep h0 h' [a0] → Exa Z h' a0 "com/example/bordertable/bordertable/BorderCore" → Fld Z h' a0 "com/example/bordertable/bordertable/BorderCore" "border" "[I" (.ref u_border) → own_AI Z h' u_border .int (f2_0 v1) → h0.size ≤ u_border → Fld Z h' a0 "com/example/bordertable/bordertable/BorderCore" "pattern" "[I" (.ref a1) → K none h' L') : own_Go p e below (own_Q s K cc2 ss2) T (mkF m 0 #[.val (.ref a0), .val (.ref a1), .unset] []) := by
  obtain ⟨hx, hZ, hw, hby, hml, hown, hret, hlk, hnm⟩ := id C
  unfold f2_0 at hK
  unfold s2_0 at hs
  refine o_aloadN (pc' := 1) X hx (hb hby d2_0) rfl rfl rfl ?_
  refine o_initO (W := 0) (pc' := 4) X hx hZ eT hown (hw _ (List.mem_of_getElem? (i := 11) rfl)) (hw _ (List.mem_of_getElem? (i := 12) rfl)) (hw _ (List.mem_of_getElem? (i := 13) rfl)) (by rw [hml]; rfl) rfl (hb hby d2_1) rfl (by decide) (by decide) fun T7 X7 e7 => ?_
  refine o_aloadN (pc' := 5) X7 hx (hb hby d2_4) rfl rfl rfl ?_
  refine o_alenI (pc' := 6)  X7 hx hZ e7 Aa1 (hb hby d2_5) rfl rfl ?_
  refine o_ifN (P := (own_len v1.length) = (0 : Int32)) (pc1 := 19) (pc2 := 9) X7 hx XT.i0_ne_f XT.i0_ne_t (hb hby d2_6) (by decide) (by decide) rfl (fun c8 => ?_) (fun c8 => ?_)
  · rw [if_neg c8] at hK
    refine o_aloadN (pc' := 20) X7 hx (hb hby d2_19) rfl rfl rfl ?_
    refine o_aloadN (pc' := 21) X7 hx (hb hby d2_20) rfl rfl rfl ?_
    refine o_putF (pc' := 24) X7 hx hZ e7 hown (hw _ (List.mem_of_getElem? (i := 14) rfl)) Fa0_pattern Ea0 (Or.inr ⟨(hw _ (List.mem_of_getElem? (i := 15) rfl)), rfl, hnm⟩) (hw _ (List.mem_of_getElem? (i := 6) rfl)) (ty := (.array .int)) (by decide) rfl rfl (hb hby d2_21) rfl fun T9 h9 X9 e9 W9 => ?_
    have B9_a1 := Aa1.other W9 (Ne.symm (own_neO Ea0 (hw _ (List.mem_of_getElem? (i := 6) rfl)) Aa1))
    have G9_a0_border := Fld.other W9 Fa0_border (Or.inr (slot_ne (Or.inr (hw _ (List.mem_of_getElem? (i := 17) rfl))) (Or.inr (hw _ (List.mem_of_getElem? (i := 15) rfl))) (by decide) (t := (.array .int)) (t' := (.array .int)) (by decide) (by decide)))
    have G9_a0_pattern := Fld.same W9 Fa0_pattern
    have H9_a0 := Exa.wr W9 Ea0
    have N9 : ∀ y ∈ L ++ [⟨a0, Jvm.RoadKit.slotOf Z "com/example/bordertable/bordertable/BorderCore" "pattern" "[I"⟩], y.base = a0 := own_snoc hN
    have P9 := hKp.wr W9 (Or.inl (List.mem_singleton.mpr rfl))
    refine o_aloadN (pc' := 25) X9 hx (hb hby d2_24) rfl rfl rfl ?_
    refine o_aloadN (pc' := 26) X9 hx (hb hby d2_25) rfl rfl rfl ?_
    refine o_alenI (pc' := 27)  X9 hx hZ e9 B9_a1 (hb hby d2_26) rfl rfl ?_
    refine o_newI (pc' := 29) (cap := 8) (vs := (List.replicate (own_len v1.length).toNatClampNeg (0 : Int32))) X9 hx hZ e9 (hw _ (List.mem_of_getElem? (i := 0) rfl)) rfl rfl (hb hby d2_27) rfl (hs.2 c8).1 (hs.2 c8).2.1 (by decide) (by decide) (by decide) rfl fun T10 h10 b10 X10 e10 q10 E10 A10 => ?_
    have g10 : s.heap.size ≤ b10 := q10 ▸ own_sz X9 e9
    have ne10_a1 : a1 ≠ b10 := Nat.ne_of_lt (q10 ▸ B9_a1.lt)
    have B10_a1 := B9_a1.ext E10
    have G10_a0_border := Fld.ext E10 G9_a0_border
    have G10_a0_pattern := Fld.ext E10 G9_a0_pattern
    have H10_a0 := Exa.ext E10 H9_a0
    have P10 := P9.ext E10
    refine o_putF (pc' := 32) X10 hx hZ e10 hown (hw _ (List.mem_of_getElem? (i := 16) rfl)) G10_a0_border H10_a0 (Or.inr ⟨(hw _ (List.mem_of_getElem? (i := 17) rfl)), rfl, hnm⟩) (hw _ (List.mem_of_getElem? (i := 6) rfl)) (ty := (.array .int)) (by decide) rfl rfl (hb hby d2_29) rfl fun T11 h11 X11 e11 W11 => ?_
    have B11_a1 := B10_a1.other W11 (Ne.symm (own_neO H10_a0 (hw _ (List.mem_of_getElem? (i := 6) rfl)) B10_a1))
    have B11_b10 := A10.other W11 (Ne.symm (own_neO H10_a0 (hw _ (List.mem_of_getElem? (i := 6) rfl)) A10))
    have G11_a0_border := Fld.same W11 G10_a0_border
    have G11_a0_pattern := Fld.other W11 G10_a0_pattern (Or.inr (slot_ne (Or.inr (hw _ (List.mem_of_getElem? (i := 15) rfl))) (Or.inr (hw _ (List.mem_of_getElem? (i := 17) rfl))) (by decide) (t := (.array .int)) (t' := (.array .int)) (by decide) (by decide)))
    have H11_a0 := Exa.wr W11 H10_a0
    have N11 : ∀ y ∈ (L ++ [⟨a0, Jvm.RoadKit.slotOf Z "com/example/bordertable/bordertable/BorderCore" "pattern" "[I"⟩]) ++ [⟨a0, Jvm.RoadKit.slotOf Z "com/example/bordertable/bordertable/BorderCore" "border" "[I"⟩], y.base = a0 := own_snoc N9
    have P11 := P10.wr W11 (Or.inl (List.mem_singleton.mpr rfl))
    refine o_iconst (pc' := 33) (x := (1 : Int32)) X11 hx (hb hby d2_32) (by decide) rfl ?_
    refine o_istoreN (pc' := 34) (l' := #[.val (.ref a0), .val (.ref a1), .val (.int (1 : Int32))]) X11 hx (hb hby d2_33) rfl rfl ?_
    exact b2_34 C 8 a0 b10 (List.replicate (own_len v1.length).toNatClampNeg (0 : Int32)) a1 v1 (1 : Int32) X11 e11 N11 P11 hs0 B11_b10 g10 B11_a1 H11_a0 G11_a0_border G11_a0_pattern ne10_a1 (hs.2 c8).2.2 hK
  · rw [if_pos c8] at hK
    exact False.elim (hs.1 c8)

end Body2
theorem ef_2 (m : MethodId) (a0 : Addr) (a1 : Addr) : entryFrame m #[(.ref a0), (.ref a1)] 3 = mkF m 0 #[.val (.ref a0), .val (.ref a1), .unset] [] := by first | (simp [entryFrame, mkF, argsToLocals, Value.category]; done) | rfl
def K2 (Z : State) (a0 : Addr) (a1 : Addr) (v1 : List Int32) (h0 : Heap) : Option Value → Heap → List Loc → Prop := fun v h L => v = none ∧ (∀ y ∈ L, y.base = a0) ∧ Keep h0 h [a0] ∧ ∃ (u_border : Addr), Exa Z h a0 "com/example/bordertable/bordertable/BorderCore" ∧ Fld Z h a0 "com/example/bordertable/bordertable/BorderCore" "border" "[I" (.ref u_border) ∧ own_AI Z h u_border .int (f2_0 v1) ∧ h0.size ≤ u_border ∧ Fld Z h a0 "com/example/bordertable/bordertable/BorderCore" "pattern" "[I" (.ref a1)
set_option maxRecDepth 65536 in
set_option maxHeartbeats 40000000 in
theorem rm2 (l : Launch) (Z : State) (ag : Array Value) (hw : ∀ d ∈ tables_1, d.before ag Z = true) (ws : List Jvm.Cond) (a0 : Addr) (a1 : Addr) (v1 : List Int32) (h0 : Heap) (Aa1 : own_AI Z h0 a1 .int v1) (Ea0 : Exa Z h0 a0 "com/example/bordertable/bordertable/BorderCore") (Fa0_border : Fld Z h0 a0 "com/example/bordertable/bordertable/BorderCore" "border" "[I" .null) (Fa0_pattern : Fld Z h0 a0 "com/example/bordertable/bordertable/BorderCore" "pattern" "[I" .null) (hs : s2_0 v1) :
    MetFree l (⟨"com/example/bordertable/bordertable/BorderCore", "<init>", "([I)V"⟩ : MethodName) (head1 (Jvm.Cond.code (⟨"com/example/bordertable/bordertable/BorderCore", "<init>", "([I)V"⟩ : MethodName) prog_1_method_1_code 3 none :: ws) R2) (fun a U => a = #[(.ref a0), (.ref a1)] ∧ Z.Warmed39 U.vm ∧ U.heap = h0) (fun _ _ _ _ _ => True) (fun _ U o U' => ∃ v L, o = .returned v ∧ (K2 Z a0 a1 v1 h0) v U'.heap L ∧ FrameEnd U o U' L R2.cells R2.slots) := by
  refine MetFree.of_bodySF (plainFor_of_name pn_BorderCore) hisR ?_
  intro p e s m args below meth c s₁ Bd hml0 hP hK
  obtain ⟨rfl, hZ, hh⟩ := hP
  have C : own_Cx p s m meth c Z ag prog_1_method_1_code 3 "com/example/bordertable/bordertable/BorderCore" none "<init>" := ⟨Bd.exec, hZ, hw, Bd.bytes, hml0, findClass_of_methodNamed Bd.named, Bd.returns, Bd.notSynchronized, (name_of_methodNamed Bd.named Bd.method).1⟩
  have X0 : Stand p l e R2 s m #[(.ref a0), (.ref a1)] below meth c s₁ [] 0 0 := Stand.of_body Bd
  have e0 : s₁.heap = h0 := by rw [← hh, Bd.state]; rfl
  rw [ef_2]
  exact b2_0 (K := (K2 Z a0 a1 v1 h0)) C a0 a1 v1 X0 e0 (fun _ q => nomatch q) (Keep.refl _ _) hh Aa1 Ea0 Fa0_border Fa0_pattern hs (fun h' L' u_border q' q'' q0 q1 q2 q3 q4 => ⟨rfl, q', q'', u_border, q0, q1, q2, q3, q4⟩)

theorem d1_0 : decode method_2_code 0 = .ok (.iload_n 0, 1) := by decide +kernel
theorem d1_1 : decode method_2_code 1 = .ok (.iconst 2, 1) := by decide +kernel
theorem d1_2 : decode method_2_code 2 = .ok (.iload_n 1, 1) := by decide +kernel
theorem d1_3 : decode method_2_code 3 = .ok (.imul, 1) := by decide +kernel
theorem d1_4 : decode method_2_code 4 = .ok (.iushr, 1) := by decide +kernel
theorem d1_5 : decode method_2_code 5 = .ok (.iconst 3, 1) := by decide +kernel
theorem d1_6 : decode method_2_code 6 = .ok (.iand, 1) := by decide +kernel
theorem d1_7 : decode method_2_code 7 = .ok (.istore 5, 2) := by decide +kernel
theorem d1_9 : decode method_2_code 9 = .ok (.iload 5, 2) := by decide +kernel
theorem d1_11 : decode method_2_code 11 = .ok (.ifCond .ne 5, 3) := by decide +kernel
theorem d1_14 : decode method_2_code 14 = .ok (.iload_n 2, 1) := by decide +kernel
theorem d1_15 : decode method_2_code 15 = .ok (.ireturn, 1) := by decide +kernel
theorem d1_16 : decode method_2_code 16 = .ok (.iload 5, 2) := by decide +kernel
theorem d1_18 : decode method_2_code 18 = .ok (.iconst 1, 1) := by decide +kernel
theorem d1_19 : decode method_2_code 19 = .ok (.if_icmp .ne 5, 3) := by decide +kernel
theorem d1_22 : decode method_2_code 22 = .ok (.iload_n 3, 1) := by decide +kernel
theorem d1_23 : decode method_2_code 23 = .ok (.ireturn, 1) := by decide +kernel
theorem d1_24 : decode method_2_code 24 = .ok (.iload 5, 2) := by decide +kernel
theorem d1_26 : decode method_2_code 26 = .ok (.iconst 2, 1) := by decide +kernel
theorem d1_27 : decode method_2_code 27 = .ok (.if_icmp .ne 6, 3) := by decide +kernel
theorem d1_30 : decode method_2_code 30 = .ok (.iload 4, 2) := by decide +kernel
theorem d1_32 : decode method_2_code 32 = .ok (.ireturn, 1) := by decide +kernel
theorem d1_33 : decode method_2_code 33 = .ok (.iload_n 2, 1) := by decide +kernel
theorem d1_34 : decode method_2_code 34 = .ok (.ireturn, 1) := by decide +kernel
section Body1
variable {p : Program} {l : Launch} {e : Env} {s : State} {m : MethodId} {args : Array Value} {below : List Frame} {meth : Method} {c : Code} {Z : State} {ag : Array Value} {K : Option Value → Heap → List Loc → Prop}
abbrev R1 : Room := { frames := 0, cells := 0, slots := 0, locals := 0 }
abbrev cc1 : Nat := 0
abbrev ss1 : Nat := 0
def f1_0 (p0 : Int32) (p1 : Int32) (p2 : Int32) (p3 : Int32) (p4 : Int32) : Int32 := (if ((own_ushr p0 ((2 : Int32) * p1)) &&& (3 : Int32)) = (0 : Int32) then p2 else (if ((own_ushr p0 ((2 : Int32) * p1)) &&& (3 : Int32)) = (1 : Int32) then p3 else (if ((own_ushr p0 ((2 : Int32) * p1)) &&& (3 : Int32)) = (2 : Int32) then p4 else p2)))
set_option maxRecDepth 65536 in
set_option maxHeartbeats 40000000 in
theorem b1_0 (C : own_Cx p s m meth c Z ag method_2_code 6 "com/example/bordertable/bordertable/BorderCoreNextPinLaw" (some .int) "pick") {T : State} {h : Heap} (p0 : Int32) (p1 : Int32) (p2 : Int32) (p3 : Int32) (p4 : Int32) (X : Stand p l e R1 s m args below meth c T [] 0 0) (eT : T.heap = h) (hK : K (some (.int (f1_0 p0 p1 p2 p3 p4))) h []) : own_Go p e below (own_Q s K cc1 ss1) T (mkF m 0 #[.val (.int p0), .val (.int p1), .val (.int p2), .val (.int p3), .val (.int p4), .unset] []) := by
  obtain ⟨hx, hZ, hw, hby, hml, hown, hret, hlk, hnm⟩ := id C
  unfold f1_0 at hK
  refine o_iloadN (pc' := 1) X hx (hb hby d1_0) rfl rfl ?_
  refine o_iconst (pc' := 2) (x := (2 : Int32)) X hx (hb hby d1_1) (by decide) rfl ?_
  refine o_iloadN (pc' := 3) X hx (hb hby d1_2) rfl rfl ?_
  refine o_imul (pc' := 4)  X hx (hb hby d1_3) rfl rfl ?_
  refine o_iushr (pc' := 5)  X hx (hb hby d1_4) rfl rfl ?_
  refine o_iconst (pc' := 6) (x := (3 : Int32)) X hx (hb hby d1_5) (by decide) rfl ?_
  refine o_iand (pc' := 7)  X hx (hb hby d1_6) rfl rfl ?_
  refine o_istore (pc' := 9) (l' := #[.val (.int p0), .val (.int p1), .val (.int p2), .val (.int p3), .val (.int p4), .val (.int ((own_ushr p0 ((2 : Int32) * p1)) &&& (3 : Int32)))]) X hx (hb hby d1_7) rfl rfl ?_
  refine o_iload (pc' := 11) X hx (hb hby d1_9) rfl rfl ?_
  refine o_ifN (P := ((own_ushr p0 ((2 : Int32) * p1)) &&& (3 : Int32)) = (0 : Int32)) (pc1 := 16) (pc2 := 14) X hx XT.i0_ne_f XT.i0_ne_t (hb hby d1_11) (by decide) (by decide) rfl (fun c17 => ?_) (fun c17 => ?_)
  · rw [if_neg c17] at hK
    refine o_iload (pc' := 18) X hx (hb hby d1_16) rfl rfl ?_
    refine o_iconst (pc' := 19) (x := (1 : Int32)) X hx (hb hby d1_18) (by decide) rfl ?_
    refine o_icN (P := ((own_ushr p0 ((2 : Int32) * p1)) &&& (3 : Int32)) = (1 : Int32)) (pc1 := 24) (pc2 := 22) X hx XT.ii_ne_f XT.ii_ne_t (hb hby d1_19) (by decide) (by decide) rfl (fun c18 => ?_) (fun c18 => ?_)
    · rw [if_neg c18] at hK
      refine o_iload (pc' := 26) X hx (hb hby d1_24) rfl rfl ?_
      refine o_iconst (pc' := 27) (x := (2 : Int32)) X hx (hb hby d1_26) (by decide) rfl ?_
      refine o_icN (P := ((own_ushr p0 ((2 : Int32) * p1)) &&& (3 : Int32)) = (2 : Int32)) (pc1 := 33) (pc2 := 30) X hx XT.ii_ne_f XT.ii_ne_t (hb hby d1_27) (by decide) (by decide) rfl (fun c19 => ?_) (fun c19 => ?_)
      · rw [if_neg c19] at hK
        refine o_iloadN (pc' := 34) X hx (hb hby d1_33) rfl rfl ?_
        exact o_retI X hx hret hlk (hb hby d1_34) (by decide) (by decide) eT (hK)
      · rw [if_pos c19] at hK
        refine o_iload (pc' := 32) X hx (hb hby d1_30) rfl rfl ?_
        exact o_retI X hx hret hlk (hb hby d1_32) (by decide) (by decide) eT (hK)
    · rw [if_pos c18] at hK
      refine o_iloadN (pc' := 23) X hx (hb hby d1_22) rfl rfl ?_
      exact o_retI X hx hret hlk (hb hby d1_23) (by decide) (by decide) eT (hK)
  · rw [if_pos c17] at hK
    refine o_iloadN (pc' := 15) X hx (hb hby d1_14) rfl rfl ?_
    exact o_retI X hx hret hlk (hb hby d1_15) (by decide) (by decide) eT (hK)

end Body1
theorem pn_BorderCoreNextPinLaw : plainName "com/example/bordertable/bordertable/BorderCoreNextPinLaw" = true := by first | (simp [plainName, overriddenIn]; done) | decide +kernel
theorem ef_1 (m : MethodId) (p0 : Int32) (p1 : Int32) (p2 : Int32) (p3 : Int32) (p4 : Int32) : entryFrame m #[(.int p0), (.int p1), (.int p2), (.int p3), (.int p4)] 6 = mkF m 0 #[.val (.int p0), .val (.int p1), .val (.int p2), .val (.int p3), .val (.int p4), .unset] [] := by first | (simp [entryFrame, mkF, argsToLocals, Value.category]; done) | rfl
set_option maxRecDepth 65536 in
set_option maxHeartbeats 40000000 in
theorem rm1 (l : Launch) (Z : State) (ag : Array Value) (hw : ∀ d ∈ tables_1, d.before ag Z = true) (ws : List Jvm.Cond) (p0 : Int32) (p1 : Int32) (p2 : Int32) (p3 : Int32) (p4 : Int32) (h0 : Heap) :
    MetFree l (⟨"com/example/bordertable/bordertable/BorderCoreNextPinLaw", "pick", "(IIIII)I"⟩ : MethodName) (head1 (Jvm.Cond.code (⟨"com/example/bordertable/bordertable/BorderCoreNextPinLaw", "pick", "(IIIII)I"⟩ : MethodName) method_2_code 6 (some .int) :: ws) R1) (fun a U => a = #[(.int p0), (.int p1), (.int p2), (.int p3), (.int p4)] ∧ Z.Warmed39 U.vm ∧ U.heap = h0) (fun _ _ _ _ _ => True) (fun _ U o U' => ∃ v L, o = .returned v ∧ own_KP (some (.int (f1_0 p0 p1 p2 p3 p4))) h0 v U'.heap L ∧ FrameEnd U o U' L R1.cells R1.slots) := by
  refine MetFree.of_bodySF (plainFor_of_name pn_BorderCoreNextPinLaw) hisR ?_
  intro p e s m args below meth c s₁ Bd hml0 hP hK
  obtain ⟨rfl, hZ, hh⟩ := hP
  have C : own_Cx p s m meth c Z ag method_2_code 6 "com/example/bordertable/bordertable/BorderCoreNextPinLaw" (some .int) "pick" := ⟨Bd.exec, hZ, hw, Bd.bytes, hml0, findClass_of_methodNamed Bd.named, Bd.returns, Bd.notSynchronized, (name_of_methodNamed Bd.named Bd.method).1⟩
  have X0 : Stand p l e R1 s m #[(.int p0), (.int p1), (.int p2), (.int p3), (.int p4)] below meth c s₁ [] 0 0 := Stand.of_body Bd
  have e0 : s₁.heap = h0 := by rw [← hh, Bd.state]; rfl
  rw [ef_1]
  exact b1_0 (K := own_KP (some (.int (f1_0 p0 p1 p2 p3 p4))) h0) C p0 p1 p2 p3 p4 X0 e0 ⟨rfl, rfl, rfl⟩

theorem d6_0 : decode method_3_code 0 = .ok (.iload_n 3, 1) := by decide +kernel
theorem d6_1 : decode method_3_code 1 = .ok (.iconst 1, 1) := by decide +kernel
theorem d6_2 : decode method_3_code 2 = .ok (.if_icmp .lt 14, 3) := by decide +kernel
theorem d6_5 : decode method_3_code 5 = .ok (.aload_n 0, 1) := by decide +kernel
theorem d6_6 : decode method_3_code 6 = .ok (.iload_n 1, 1) := by decide +kernel
theorem d6_7 : decode method_3_code 7 = .ok (.iaload, 1) := by decide +kernel
theorem d6_8 : decode method_3_code 8 = .ok (.aload_n 0, 1) := by decide +kernel
theorem d6_9 : decode method_3_code 9 = .ok (.iload_n 2, 1) := by decide +kernel
theorem d6_10 : decode method_3_code 10 = .ok (.iaload, 1) := by decide +kernel
theorem d6_11 : decode method_3_code 11 = .ok (.if_icmp .eq 5, 3) := by decide +kernel
theorem d6_14 : decode method_3_code 14 = .ok (.iconst 0, 1) := by decide +kernel
theorem d6_15 : decode method_3_code 15 = .ok (.ireturn, 1) := by decide +kernel
theorem d6_16 : decode method_3_code 16 = .ok (.iload_n 3, 1) := by decide +kernel
theorem d6_17 : decode method_3_code 17 = .ok (.iconst 2, 1) := by decide +kernel
theorem d6_18 : decode method_3_code 18 = .ok (.if_icmp .lt 18, 3) := by decide +kernel
theorem d6_21 : decode method_3_code 21 = .ok (.aload_n 0, 1) := by decide +kernel
theorem d6_22 : decode method_3_code 22 = .ok (.iload_n 1, 1) := by decide +kernel
theorem d6_23 : decode method_3_code 23 = .ok (.iconst 1, 1) := by decide +kernel
theorem d6_24 : decode method_3_code 24 = .ok (.iadd, 1) := by decide +kernel
theorem d6_25 : decode method_3_code 25 = .ok (.iaload, 1) := by decide +kernel
theorem d6_26 : decode method_3_code 26 = .ok (.aload_n 0, 1) := by decide +kernel
theorem d6_27 : decode method_3_code 27 = .ok (.iload_n 2, 1) := by decide +kernel
theorem d6_28 : decode method_3_code 28 = .ok (.iconst 1, 1) := by decide +kernel
theorem d6_29 : decode method_3_code 29 = .ok (.iadd, 1) := by decide +kernel
theorem d6_30 : decode method_3_code 30 = .ok (.iaload, 1) := by decide +kernel
theorem d6_31 : decode method_3_code 31 = .ok (.if_icmp .eq 5, 3) := by decide +kernel
theorem d6_34 : decode method_3_code 34 = .ok (.iconst 0, 1) := by decide +kernel
theorem d6_35 : decode method_3_code 35 = .ok (.ireturn, 1) := by decide +kernel
theorem d6_36 : decode method_3_code 36 = .ok (.iload_n 3, 1) := by decide +kernel
theorem d6_37 : decode method_3_code 37 = .ok (.iconst 3, 1) := by decide +kernel
theorem d6_38 : decode method_3_code 38 = .ok (.if_icmp .lt 18, 3) := by decide +kernel
theorem d6_41 : decode method_3_code 41 = .ok (.aload_n 0, 1) := by decide +kernel
theorem d6_42 : decode method_3_code 42 = .ok (.iload_n 1, 1) := by decide +kernel
theorem d6_43 : decode method_3_code 43 = .ok (.iconst 2, 1) := by decide +kernel
theorem d6_44 : decode method_3_code 44 = .ok (.iadd, 1) := by decide +kernel
theorem d6_45 : decode method_3_code 45 = .ok (.iaload, 1) := by decide +kernel
theorem d6_46 : decode method_3_code 46 = .ok (.aload_n 0, 1) := by decide +kernel
theorem d6_47 : decode method_3_code 47 = .ok (.iload_n 2, 1) := by decide +kernel
theorem d6_48 : decode method_3_code 48 = .ok (.iconst 2, 1) := by decide +kernel
theorem d6_49 : decode method_3_code 49 = .ok (.iadd, 1) := by decide +kernel
theorem d6_50 : decode method_3_code 50 = .ok (.iaload, 1) := by decide +kernel
theorem d6_51 : decode method_3_code 51 = .ok (.if_icmp .eq 5, 3) := by decide +kernel
theorem d6_54 : decode method_3_code 54 = .ok (.iconst 0, 1) := by decide +kernel
theorem d6_55 : decode method_3_code 55 = .ok (.ireturn, 1) := by decide +kernel
theorem d6_56 : decode method_3_code 56 = .ok (.iconst 1, 1) := by decide +kernel
theorem d6_57 : decode method_3_code 57 = .ok (.ireturn, 1) := by decide +kernel
section Body6
variable {p : Program} {l : Launch} {e : Env} {s : State} {m : MethodId} {args : Array Value} {below : List Frame} {meth : Method} {c : Code} {Z : State} {ag : Array Value} {K : Option Value → Heap → List Loc → Prop}
abbrev R6 : Room := { frames := 0, cells := 0, slots := 0, locals := 0 }
abbrev cc6 : Nat := 0
abbrev ss6 : Nat := 0
def f6_56 : Int32 := (1 : Int32)
set_option maxRecDepth 65536 in
set_option maxHeartbeats 40000000 in
theorem b6_56 (C : own_Cx p s m meth c Z ag method_3_code 4 "com/example/bordertable/bordertable/BorderCoreNextPinLaw" (some .boolean) "eq") {T : State} {h : Heap} {z0 : Slot} {z1 : Slot} {z2 : Slot} {z3 : Slot} (X : Stand p l e R6 s m args below meth c T [] 0 0) (eT : T.heap = h) (hz0 : One z0) (hz1 : One z1) (hz2 : One z2) (hz3 : One z3) (hK : K (some (.int (f6_56))) h []) : own_Go p e below (own_Q s K cc6 ss6) T (mkF m 56 #[z0, z1, z2, z3] []) := by
  obtain ⟨hx, hZ, hw, hby, hml, hown, hret, hlk, hnm⟩ := id C
  unfold f6_56 at hK
  refine o_iconst (pc' := 57) (x := (1 : Int32)) X hx (hb hby d6_56) (by decide) rfl ?_
  exact o_retN X hx (t := .boolean) hret (by simp) hlk (hb hby d6_57) (by decide) (by decide) eT (hK)

def f6_36 (v0 : List Int32) (x1 : Int32) (x2 : Int32) (x3 : Int32) : Int32 := (if x3 < (3 : Int32) then f6_56 else (if (own_get v0 (x1 + (2 : Int32))) = (own_get v0 (x2 + (2 : Int32))) then f6_56 else (0 : Int32)))
def s6_36 (v0 : List Int32) (x1 : Int32) (x2 : Int32) (x3 : Int32) : Prop := ((x3 < (3 : Int32) → True) ∧ (¬ (x3 < (3 : Int32)) → (own_in v0.length (x1 + (2 : Int32)) ∧ own_in v0.length (x2 + (2 : Int32)) ∧ True)))
set_option maxRecDepth 65536 in
set_option maxHeartbeats 40000000 in
theorem b6_36 (C : own_Cx p s m meth c Z ag method_3_code 4 "com/example/bordertable/bordertable/BorderCoreNextPinLaw" (some .boolean) "eq") {T : State} {h : Heap} (a0 : Addr) (v0 : List Int32) (x1 : Int32) (x2 : Int32) (x3 : Int32) (X : Stand p l e R6 s m args below meth c T [] 0 0) (eT : T.heap = h) (Aa0 : own_AI Z h a0 .int v0) (hs : s6_36 v0 x1 x2 x3) (hK : K (some (.int (f6_36 v0 x1 x2 x3))) h []) : own_Go p e below (own_Q s K cc6 ss6) T (mkF m 36 #[.val (.ref a0), .val (.int x1), .val (.int x2), .val (.int x3)] []) := by
  obtain ⟨hx, hZ, hw, hby, hml, hown, hret, hlk, hnm⟩ := id C
  unfold f6_36 at hK
  unfold s6_36 at hs
  refine o_iloadN (pc' := 37) X hx (hb hby d6_36) rfl rfl ?_
  refine o_iconst (pc' := 38) (x := (3 : Int32)) X hx (hb hby d6_37) (by decide) rfl ?_
  refine o_icP (P := x3 < (3 : Int32)) (pc1 := 56) (pc2 := 41) X hx XT.ii_lt_t XT.ii_lt_f (hb hby d6_38) (by decide) (by decide) rfl (fun c22 => ?_) (fun c22 => ?_)
  · rw [if_pos c22] at hK
    exact b6_56 C X eT (One.val rfl) (One.val rfl) (One.val rfl) (One.val rfl) hK
  · rw [if_neg c22] at hK
    refine o_aloadN (pc' := 42) X hx (hb hby d6_41) rfl rfl rfl ?_
    refine o_iloadN (pc' := 43) X hx (hb hby d6_42) rfl rfl ?_
    refine o_iconst (pc' := 44) (x := (2 : Int32)) X hx (hb hby d6_43) (by decide) rfl ?_
    refine o_iadd (pc' := 45)  X hx (hb hby d6_44) rfl rfl ?_
    refine o_iaload (pc' := 46)  X hx hZ eT Aa0 (hs.2 c22).1 (hb hby d6_45) rfl rfl ?_
    refine o_aloadN (pc' := 47) X hx (hb hby d6_46) rfl rfl rfl ?_
    refine o_iloadN (pc' := 48) X hx (hb hby d6_47) rfl rfl ?_
    refine o_iconst (pc' := 49) (x := (2 : Int32)) X hx (hb hby d6_48) (by decide) rfl ?_
    refine o_iadd (pc' := 50)  X hx (hb hby d6_49) rfl rfl ?_
    refine o_iaload (pc' := 51)  X hx hZ eT Aa0 (hs.2 c22).2.1 (hb hby d6_50) rfl rfl ?_
    refine o_icP (P := (own_get v0 (x1 + (2 : Int32))) = (own_get v0 (x2 + (2 : Int32)))) (pc1 := 56) (pc2 := 54) X hx XT.ii_eq_t XT.ii_eq_f (hb hby d6_51) (by decide) (by decide) rfl (fun c23 => ?_) (fun c23 => ?_)
    · rw [if_pos c23] at hK
      exact b6_56 C X eT (One.val rfl) (One.val rfl) (One.val rfl) (One.val rfl) hK
    · rw [if_neg c23] at hK
      refine o_iconst (pc' := 55) (x := (0 : Int32)) X hx (hb hby d6_54) (by decide) rfl ?_
      exact o_retN X hx (t := .boolean) hret (by simp) hlk (hb hby d6_55) (by decide) (by decide) eT (hK)

def f6_16 (v0 : List Int32) (x1 : Int32) (x2 : Int32) (x3 : Int32) : Int32 := (if x3 < (2 : Int32) then (f6_36 v0 x1 x2 x3) else (if (own_get v0 (x1 + (1 : Int32))) = (own_get v0 (x2 + (1 : Int32))) then (f6_36 v0 x1 x2 x3) else (0 : Int32)))
def s6_16 (v0 : List Int32) (x1 : Int32) (x2 : Int32) (x3 : Int32) : Prop := ((x3 < (2 : Int32) → s6_36 v0 x1 x2 x3) ∧ (¬ (x3 < (2 : Int32)) → (own_in v0.length (x1 + (1 : Int32)) ∧ own_in v0.length (x2 + (1 : Int32)) ∧ (((own_get v0 (x1 + (1 : Int32))) = (own_get v0 (x2 + (1 : Int32))) → s6_36 v0 x1 x2 x3) ∧ (¬ ((own_get v0 (x1 + (1 : Int32))) = (own_get v0 (x2 + (1 : Int32)))) → True)))))
set_option maxRecDepth 65536 in
set_option maxHeartbeats 40000000 in
theorem b6_16 (C : own_Cx p s m meth c Z ag method_3_code 4 "com/example/bordertable/bordertable/BorderCoreNextPinLaw" (some .boolean) "eq") {T : State} {h : Heap} (a0 : Addr) (v0 : List Int32) (x1 : Int32) (x2 : Int32) (x3 : Int32) (X : Stand p l e R6 s m args below meth c T [] 0 0) (eT : T.heap = h) (Aa0 : own_AI Z h a0 .int v0) (hs : s6_16 v0 x1 x2 x3) (hK : K (some (.int (f6_16 v0 x1 x2 x3))) h []) : own_Go p e below (own_Q s K cc6 ss6) T (mkF m 16 #[.val (.ref a0), .val (.int x1), .val (.int x2), .val (.int x3)] []) := by
  obtain ⟨hx, hZ, hw, hby, hml, hown, hret, hlk, hnm⟩ := id C
  unfold f6_16 at hK
  unfold s6_16 at hs
  refine o_iloadN (pc' := 17) X hx (hb hby d6_16) rfl rfl ?_
  refine o_iconst (pc' := 18) (x := (2 : Int32)) X hx (hb hby d6_17) (by decide) rfl ?_
  refine o_icP (P := x3 < (2 : Int32)) (pc1 := 36) (pc2 := 21) X hx XT.ii_lt_t XT.ii_lt_f (hb hby d6_18) (by decide) (by decide) rfl (fun c21 => ?_) (fun c21 => ?_)
  · rw [if_pos c21] at hK
    exact b6_36 C a0 v0 x1 x2 x3 X eT Aa0 (hs.1 c21) hK
  · rw [if_neg c21] at hK
    refine o_aloadN (pc' := 22) X hx (hb hby d6_21) rfl rfl rfl ?_
    refine o_iloadN (pc' := 23) X hx (hb hby d6_22) rfl rfl ?_
    refine o_iconst (pc' := 24) (x := (1 : Int32)) X hx (hb hby d6_23) (by decide) rfl ?_
    refine o_iadd (pc' := 25)  X hx (hb hby d6_24) rfl rfl ?_
    refine o_iaload (pc' := 26)  X hx hZ eT Aa0 (hs.2 c21).1 (hb hby d6_25) rfl rfl ?_
    refine o_aloadN (pc' := 27) X hx (hb hby d6_26) rfl rfl rfl ?_
    refine o_iloadN (pc' := 28) X hx (hb hby d6_27) rfl rfl ?_
    refine o_iconst (pc' := 29) (x := (1 : Int32)) X hx (hb hby d6_28) (by decide) rfl ?_
    refine o_iadd (pc' := 30)  X hx (hb hby d6_29) rfl rfl ?_
    refine o_iaload (pc' := 31)  X hx hZ eT Aa0 (hs.2 c21).2.1 (hb hby d6_30) rfl rfl ?_
    refine o_icP (P := (own_get v0 (x1 + (1 : Int32))) = (own_get v0 (x2 + (1 : Int32)))) (pc1 := 36) (pc2 := 34) X hx XT.ii_eq_t XT.ii_eq_f (hb hby d6_31) (by decide) (by decide) rfl (fun c24 => ?_) (fun c24 => ?_)
    · rw [if_pos c24] at hK
      exact b6_36 C a0 v0 x1 x2 x3 X eT Aa0 ((hs.2 c21).2.2.1 c24) hK
    · rw [if_neg c24] at hK
      refine o_iconst (pc' := 35) (x := (0 : Int32)) X hx (hb hby d6_34) (by decide) rfl ?_
      exact o_retN X hx (t := .boolean) hret (by simp) hlk (hb hby d6_35) (by decide) (by decide) eT (hK)

def f6_0 (v0 : List Int32) (p1 : Int32) (p2 : Int32) (p3 : Int32) : Int32 := (if p3 < (1 : Int32) then (f6_16 v0 p1 p2 p3) else (if (own_get v0 p1) = (own_get v0 p2) then (f6_16 v0 p1 p2 p3) else (0 : Int32)))
def s6_0 (v0 : List Int32) (p1 : Int32) (p2 : Int32) (p3 : Int32) : Prop := ((p3 < (1 : Int32) → s6_16 v0 p1 p2 p3) ∧ (¬ (p3 < (1 : Int32)) → (own_in v0.length p1 ∧ own_in v0.length p2 ∧ (((own_get v0 p1) = (own_get v0 p2) → s6_16 v0 p1 p2 p3) ∧ (¬ ((own_get v0 p1) = (own_get v0 p2)) → True)))))
set_option maxRecDepth 65536 in
set_option maxHeartbeats 40000000 in
theorem b6_0 (C : own_Cx p s m meth c Z ag method_3_code 4 "com/example/bordertable/bordertable/BorderCoreNextPinLaw" (some .boolean) "eq") {T : State} {h : Heap} (a0 : Addr) (v0 : List Int32) (p1 : Int32) (p2 : Int32) (p3 : Int32) (X : Stand p l e R6 s m args below meth c T [] 0 0) (eT : T.heap = h) (Aa0 : own_AI Z h a0 .int v0) (hs : s6_0 v0 p1 p2 p3) (hK : K (some (.int (f6_0 v0 p1 p2 p3))) h []) : own_Go p e below (own_Q s K cc6 ss6) T (mkF m 0 #[.val (.ref a0), .val (.int p1), .val (.int p2), .val (.int p3)] []) := by
  obtain ⟨hx, hZ, hw, hby, hml, hown, hret, hlk, hnm⟩ := id C
  unfold f6_0 at hK
  unfold s6_0 at hs
  refine o_iloadN (pc' := 1) X hx (hb hby d6_0) rfl rfl ?_
  refine o_iconst (pc' := 2) (x := (1 : Int32)) X hx (hb hby d6_1) (by decide) rfl ?_
  refine o_icP (P := p3 < (1 : Int32)) (pc1 := 16) (pc2 := 5) X hx XT.ii_lt_t XT.ii_lt_f (hb hby d6_2) (by decide) (by decide) rfl (fun c20 => ?_) (fun c20 => ?_)
  · rw [if_pos c20] at hK
    exact b6_16 C a0 v0 p1 p2 p3 X eT Aa0 (hs.1 c20) hK
  · rw [if_neg c20] at hK
    refine o_aloadN (pc' := 6) X hx (hb hby d6_5) rfl rfl rfl ?_
    refine o_iloadN (pc' := 7) X hx (hb hby d6_6) rfl rfl ?_
    refine o_iaload (pc' := 8)  X hx hZ eT Aa0 (hs.2 c20).1 (hb hby d6_7) rfl rfl ?_
    refine o_aloadN (pc' := 9) X hx (hb hby d6_8) rfl rfl rfl ?_
    refine o_iloadN (pc' := 10) X hx (hb hby d6_9) rfl rfl ?_
    refine o_iaload (pc' := 11)  X hx hZ eT Aa0 (hs.2 c20).2.1 (hb hby d6_10) rfl rfl ?_
    refine o_icP (P := (own_get v0 p1) = (own_get v0 p2)) (pc1 := 16) (pc2 := 14) X hx XT.ii_eq_t XT.ii_eq_f (hb hby d6_11) (by decide) (by decide) rfl (fun c25 => ?_) (fun c25 => ?_)
    · rw [if_pos c25] at hK
      exact b6_16 C a0 v0 p1 p2 p3 X eT Aa0 ((hs.2 c20).2.2.1 c25) hK
    · rw [if_neg c25] at hK
      refine o_iconst (pc' := 15) (x := (0 : Int32)) X hx (hb hby d6_14) (by decide) rfl ?_
      exact o_retN X hx (t := .boolean) hret (by simp) hlk (hb hby d6_15) (by decide) (by decide) eT (hK)

end Body6
theorem ef_6 (m : MethodId) (a0 : Addr) (p1 : Int32) (p2 : Int32) (p3 : Int32) : entryFrame m #[(.ref a0), (.int p1), (.int p2), (.int p3)] 4 = mkF m 0 #[.val (.ref a0), .val (.int p1), .val (.int p2), .val (.int p3)] [] := by first | (simp [entryFrame, mkF, argsToLocals, Value.category]; done) | rfl
set_option maxRecDepth 65536 in
set_option maxHeartbeats 40000000 in
theorem rm6 (l : Launch) (Z : State) (ag : Array Value) (hw : ∀ d ∈ tables_1, d.before ag Z = true) (ws : List Jvm.Cond) (a0 : Addr) (v0 : List Int32) (p1 : Int32) (p2 : Int32) (p3 : Int32) (h0 : Heap) (Aa0 : own_AI Z h0 a0 .int v0) (hs : s6_0 v0 p1 p2 p3) :
    MetFree l (⟨"com/example/bordertable/bordertable/BorderCoreNextPinLaw", "eq", "([IIII)Z"⟩ : MethodName) (head1 (Jvm.Cond.code (⟨"com/example/bordertable/bordertable/BorderCoreNextPinLaw", "eq", "([IIII)Z"⟩ : MethodName) method_3_code 4 (some .boolean) :: ws) R6) (fun a U => a = #[(.ref a0), (.int p1), (.int p2), (.int p3)] ∧ Z.Warmed39 U.vm ∧ U.heap = h0) (fun _ _ _ _ _ => True) (fun _ U o U' => ∃ v L, o = .returned v ∧ own_KP (some (.int (f6_0 v0 p1 p2 p3))) h0 v U'.heap L ∧ FrameEnd U o U' L R6.cells R6.slots) := by
  refine MetFree.of_bodySF (plainFor_of_name pn_BorderCoreNextPinLaw) hisR ?_
  intro p e s m args below meth c s₁ Bd hml0 hP hK
  obtain ⟨rfl, hZ, hh⟩ := hP
  have C : own_Cx p s m meth c Z ag method_3_code 4 "com/example/bordertable/bordertable/BorderCoreNextPinLaw" (some .boolean) "eq" := ⟨Bd.exec, hZ, hw, Bd.bytes, hml0, findClass_of_methodNamed Bd.named, Bd.returns, Bd.notSynchronized, (name_of_methodNamed Bd.named Bd.method).1⟩
  have X0 : Stand p l e R6 s m #[(.ref a0), (.int p1), (.int p2), (.int p3)] below meth c s₁ [] 0 0 := Stand.of_body Bd
  have e0 : s₁.heap = h0 := by rw [← hh, Bd.state]; rfl
  rw [ef_6]
  exact b6_0 (K := own_KP (some (.int (f6_0 v0 p1 p2 p3))) h0) C a0 v0 p1 p2 p3 X0 e0 Aa0 hs ⟨rfl, rfl, rfl⟩

theorem d5_0 : decode method_4_code 0 = .ok (.iload_n 1, 1) := by decide +kernel
theorem d5_1 : decode method_4_code 1 = .ok (.iconst 1, 1) := by decide +kernel
theorem d5_2 : decode method_4_code 2 = .ok (.isub, 1) := by decide +kernel
theorem d5_3 : decode method_4_code 3 = .ok (.iconst 3, 1) := by decide +kernel
theorem d5_4 : decode method_4_code 4 = .ok (.if_icmp .lt 17, 3) := by decide +kernel
theorem d5_7 : decode method_4_code 7 = .ok (.aload_n 0, 1) := by decide +kernel
theorem d5_8 : decode method_4_code 8 = .ok (.iconst 0, 1) := by decide +kernel
theorem d5_9 : decode method_4_code 9 = .ok (.iload_n 1, 1) := by decide +kernel
theorem d5_10 : decode method_4_code 10 = .ok (.iconst 3, 1) := by decide +kernel
theorem d5_11 : decode method_4_code 11 = .ok (.isub, 1) := by decide +kernel
theorem d5_12 : decode method_4_code 12 = .ok (.iconst 3, 1) := by decide +kernel
theorem d5_13 : decode method_4_code 13 = .ok (.invokestatic 7, 3) := by decide +kernel
theorem d5_16 : decode method_4_code 16 = .ok (.ifCond .eq 5, 3) := by decide +kernel
theorem d5_19 : decode method_4_code 19 = .ok (.iconst 3, 1) := by decide +kernel
theorem d5_20 : decode method_4_code 20 = .ok (.ireturn, 1) := by decide +kernel
theorem d5_21 : decode method_4_code 21 = .ok (.iload_n 1, 1) := by decide +kernel
theorem d5_22 : decode method_4_code 22 = .ok (.iconst 1, 1) := by decide +kernel
theorem d5_23 : decode method_4_code 23 = .ok (.isub, 1) := by decide +kernel
theorem d5_24 : decode method_4_code 24 = .ok (.iconst 2, 1) := by decide +kernel
theorem d5_25 : decode method_4_code 25 = .ok (.if_icmp .lt 17, 3) := by decide +kernel
theorem d5_28 : decode method_4_code 28 = .ok (.aload_n 0, 1) := by decide +kernel
theorem d5_29 : decode method_4_code 29 = .ok (.iconst 0, 1) := by decide +kernel
theorem d5_30 : decode method_4_code 30 = .ok (.iload_n 1, 1) := by decide +kernel
theorem d5_31 : decode method_4_code 31 = .ok (.iconst 2, 1) := by decide +kernel
theorem d5_32 : decode method_4_code 32 = .ok (.isub, 1) := by decide +kernel
theorem d5_33 : decode method_4_code 33 = .ok (.iconst 2, 1) := by decide +kernel
theorem d5_34 : decode method_4_code 34 = .ok (.invokestatic 7, 3) := by decide +kernel
theorem d5_37 : decode method_4_code 37 = .ok (.ifCond .eq 5, 3) := by decide +kernel
theorem d5_40 : decode method_4_code 40 = .ok (.iconst 2, 1) := by decide +kernel
theorem d5_41 : decode method_4_code 41 = .ok (.ireturn, 1) := by decide +kernel
theorem d5_42 : decode method_4_code 42 = .ok (.iload_n 1, 1) := by decide +kernel
theorem d5_43 : decode method_4_code 43 = .ok (.iconst 1, 1) := by decide +kernel
theorem d5_44 : decode method_4_code 44 = .ok (.isub, 1) := by decide +kernel
theorem d5_45 : decode method_4_code 45 = .ok (.iconst 1, 1) := by decide +kernel
theorem d5_46 : decode method_4_code 46 = .ok (.if_icmp .lt 17, 3) := by decide +kernel
theorem d5_49 : decode method_4_code 49 = .ok (.aload_n 0, 1) := by decide +kernel
theorem d5_50 : decode method_4_code 50 = .ok (.iconst 0, 1) := by decide +kernel
theorem d5_51 : decode method_4_code 51 = .ok (.iload_n 1, 1) := by decide +kernel
theorem d5_52 : decode method_4_code 52 = .ok (.iconst 1, 1) := by decide +kernel
theorem d5_53 : decode method_4_code 53 = .ok (.isub, 1) := by decide +kernel
theorem d5_54 : decode method_4_code 54 = .ok (.iconst 1, 1) := by decide +kernel
theorem d5_55 : decode method_4_code 55 = .ok (.invokestatic 7, 3) := by decide +kernel
theorem d5_58 : decode method_4_code 58 = .ok (.ifCond .eq 5, 3) := by decide +kernel
theorem d5_61 : decode method_4_code 61 = .ok (.iconst 1, 1) := by decide +kernel
theorem d5_62 : decode method_4_code 62 = .ok (.ireturn, 1) := by decide +kernel
theorem d5_63 : decode method_4_code 63 = .ok (.iconst 0, 1) := by decide +kernel
theorem d5_64 : decode method_4_code 64 = .ok (.ireturn, 1) := by decide +kernel
section Body5
variable {p : Program} {l : Launch} {e : Env} {s : State} {m : MethodId} {args : Array Value} {below : List Frame} {meth : Method} {c : Code} {Z : State} {ag : Array Value} {K : Option Value → Heap → List Loc → Prop}
abbrev R5 : Room := { frames := 1, cells := 0, slots := 0, locals := 15 }
abbrev cc5 : Nat := 0
abbrev ss5 : Nat := 0
def f5_63 : Int32 := (0 : Int32)
set_option maxRecDepth 65536 in
set_option maxHeartbeats 40000000 in
theorem b5_63 (C : own_Cx p s m meth c Z ag method_4_code 2 "com/example/bordertable/bordertable/BorderCoreNextPinLaw" (some .int) "border") {T : State} {h : Heap} {z0 : Slot} {z1 : Slot} (X : Stand p l e R5 s m args below meth c T [] 0 0) (eT : T.heap = h) (hz0 : One z0) (hz1 : One z1) (hK : K (some (.int (f5_63))) h []) : own_Go p e below (own_Q s K cc5 ss5) T (mkF m 63 #[z0, z1] []) := by
  obtain ⟨hx, hZ, hw, hby, hml, hown, hret, hlk, hnm⟩ := id C
  unfold f5_63 at hK
  refine o_iconst (pc' := 64) (x := (0 : Int32)) X hx (hb hby d5_63) (by decide) rfl ?_
  exact o_retI X hx hret hlk (hb hby d5_64) (by decide) (by decide) eT (hK)

def f5_42 (v0 : List Int32) (x1 : Int32) : Int32 := (if (x1 - (1 : Int32)) < (1 : Int32) then f5_63 else (if (f6_0 v0 (0 : Int32) (x1 - (1 : Int32)) (1 : Int32)) = (0 : Int32) then f5_63 else (1 : Int32)))
def s5_42 (v0 : List Int32) (x1 : Int32) : Prop := (((x1 - (1 : Int32)) < (1 : Int32) → True) ∧ (¬ ((x1 - (1 : Int32)) < (1 : Int32)) → ((s6_0 v0 (0 : Int32) (x1 - (1 : Int32)) (1 : Int32)) ∧ True)))
set_option maxRecDepth 65536 in
set_option maxHeartbeats 40000000 in
theorem b5_42 (C : own_Cx p s m meth c Z ag method_4_code 2 "com/example/bordertable/bordertable/BorderCoreNextPinLaw" (some .int) "border") {T : State} {h : Heap} (a0 : Addr) (v0 : List Int32) (x1 : Int32) (X : Stand p l e R5 s m args below meth c T [] 0 0) (eT : T.heap = h) (Aa0 : own_AI Z h a0 .int v0) (hs : s5_42 v0 x1) (hK : K (some (.int (f5_42 v0 x1))) h []) : own_Go p e below (own_Q s K cc5 ss5) T (mkF m 42 #[.val (.ref a0), .val (.int x1)] []) := by
  obtain ⟨hx, hZ, hw, hby, hml, hown, hret, hlk, hnm⟩ := id C
  unfold f5_42 at hK
  unfold s5_42 at hs
  refine o_iloadN (pc' := 43) X hx (hb hby d5_42) rfl rfl ?_
  refine o_iconst (pc' := 44) (x := (1 : Int32)) X hx (hb hby d5_43) (by decide) rfl ?_
  refine o_isub (pc' := 45)  X hx (hb hby d5_44) rfl rfl ?_
  refine o_iconst (pc' := 46) (x := (1 : Int32)) X hx (hb hby d5_45) (by decide) rfl ?_
  refine o_icP (P := (x1 - (1 : Int32)) < (1 : Int32)) (pc1 := 63) (pc2 := 49) X hx XT.ii_lt_t XT.ii_lt_f (hb hby d5_46) (by decide) (by decide) rfl (fun c28 => ?_) (fun c28 => ?_)
  · rw [if_pos c28] at hK
    exact b5_63 C X eT (One.val rfl) (One.val rfl) hK
  · rw [if_neg c28] at hK
    refine o_aloadN (pc' := 50) X hx (hb hby d5_49) rfl rfl rfl ?_
    refine o_iconst (pc' := 51) (x := (0 : Int32)) X hx (hb hby d5_50) (by decide) rfl ?_
    refine o_iloadN (pc' := 52) X hx (hb hby d5_51) rfl rfl ?_
    refine o_iconst (pc' := 53) (x := (1 : Int32)) X hx (hb hby d5_52) (by decide) rfl ?_
    refine o_isub (pc' := 54)  X hx (hb hby d5_53) rfl rfl ?_
    refine o_iconst (pc' := 55) (x := (1 : Int32)) X hx (hb hby d5_54) (by decide) rfl ?_
    refine o_callP (W := 0) (pc' := 58) (argsL := [(.ref a0), (.int (0 : Int32)), (.int (x1 - (1 : Int32))), (.int (1 : Int32))]) (rest := []) (st' := [(.int (f6_0 v0 (0 : Int32) (x1 - (1 : Int32)) (1 : Int32)))]) X hx hZ eT hown (hw _ (List.mem_of_getElem? (i := 30) rfl)) (hw _ (List.mem_of_getElem? (i := 31) rfl)) (hw _ (List.mem_of_getElem? (i := 3) rfl)) (hw _ (List.mem_of_getElem? (i := 32) rfl)) (by decide) (rm6 l Z ag hw [] a0 v0 (0 : Int32) (x1 - (1 : Int32)) (1 : Int32) h Aa0 (hs.2 c28).1) (by decide) (by decide) (by rw [hml]; rfl) pd_1 rfl rfl rfl rfl (hb hby d5_55) rfl rfl rfl (by decide) (by decide) rfl fun T29 X29 e29 => ?_
    refine o_ifP (P := (f6_0 v0 (0 : Int32) (x1 - (1 : Int32)) (1 : Int32)) = (0 : Int32)) (pc1 := 63) (pc2 := 61) X29 hx XT.i0_eq_t XT.i0_eq_f (hb hby d5_58) (by decide) (by decide) rfl (fun c30 => ?_) (fun c30 => ?_)
    · rw [if_pos c30] at hK
      exact b5_63 C X29 e29 (One.val rfl) (One.val rfl) hK
    · rw [if_neg c30] at hK
      refine o_iconst (pc' := 62) (x := (1 : Int32)) X29 hx (hb hby d5_61) (by decide) rfl ?_
      exact o_retI X29 hx hret hlk (hb hby d5_62) (by decide) (by decide) e29 (hK)

def f5_21 (v0 : List Int32) (x1 : Int32) : Int32 := (if (x1 - (1 : Int32)) < (2 : Int32) then (f5_42 v0 x1) else (if (f6_0 v0 (0 : Int32) (x1 - (2 : Int32)) (2 : Int32)) = (0 : Int32) then (f5_42 v0 x1) else (2 : Int32)))
def s5_21 (v0 : List Int32) (x1 : Int32) : Prop := (((x1 - (1 : Int32)) < (2 : Int32) → s5_42 v0 x1) ∧ (¬ ((x1 - (1 : Int32)) < (2 : Int32)) → ((s6_0 v0 (0 : Int32) (x1 - (2 : Int32)) (2 : Int32)) ∧ (((f6_0 v0 (0 : Int32) (x1 - (2 : Int32)) (2 : Int32)) = (0 : Int32) → s5_42 v0 x1) ∧ (¬ ((f6_0 v0 (0 : Int32) (x1 - (2 : Int32)) (2 : Int32)) = (0 : Int32)) → True)))))
set_option maxRecDepth 65536 in
set_option maxHeartbeats 40000000 in
theorem b5_21 (C : own_Cx p s m meth c Z ag method_4_code 2 "com/example/bordertable/bordertable/BorderCoreNextPinLaw" (some .int) "border") {T : State} {h : Heap} (a0 : Addr) (v0 : List Int32) (x1 : Int32) (X : Stand p l e R5 s m args below meth c T [] 0 0) (eT : T.heap = h) (Aa0 : own_AI Z h a0 .int v0) (hs : s5_21 v0 x1) (hK : K (some (.int (f5_21 v0 x1))) h []) : own_Go p e below (own_Q s K cc5 ss5) T (mkF m 21 #[.val (.ref a0), .val (.int x1)] []) := by
  obtain ⟨hx, hZ, hw, hby, hml, hown, hret, hlk, hnm⟩ := id C
  unfold f5_21 at hK
  unfold s5_21 at hs
  refine o_iloadN (pc' := 22) X hx (hb hby d5_21) rfl rfl ?_
  refine o_iconst (pc' := 23) (x := (1 : Int32)) X hx (hb hby d5_22) (by decide) rfl ?_
  refine o_isub (pc' := 24)  X hx (hb hby d5_23) rfl rfl ?_
  refine o_iconst (pc' := 25) (x := (2 : Int32)) X hx (hb hby d5_24) (by decide) rfl ?_
  refine o_icP (P := (x1 - (1 : Int32)) < (2 : Int32)) (pc1 := 42) (pc2 := 28) X hx XT.ii_lt_t XT.ii_lt_f (hb hby d5_25) (by decide) (by decide) rfl (fun c27 => ?_) (fun c27 => ?_)
  · rw [if_pos c27] at hK
    exact b5_42 C a0 v0 x1 X eT Aa0 (hs.1 c27) hK
  · rw [if_neg c27] at hK
    refine o_aloadN (pc' := 29) X hx (hb hby d5_28) rfl rfl rfl ?_
    refine o_iconst (pc' := 30) (x := (0 : Int32)) X hx (hb hby d5_29) (by decide) rfl ?_
    refine o_iloadN (pc' := 31) X hx (hb hby d5_30) rfl rfl ?_
    refine o_iconst (pc' := 32) (x := (2 : Int32)) X hx (hb hby d5_31) (by decide) rfl ?_
    refine o_isub (pc' := 33)  X hx (hb hby d5_32) rfl rfl ?_
    refine o_iconst (pc' := 34) (x := (2 : Int32)) X hx (hb hby d5_33) (by decide) rfl ?_
    refine o_callP (W := 0) (pc' := 37) (argsL := [(.ref a0), (.int (0 : Int32)), (.int (x1 - (2 : Int32))), (.int (2 : Int32))]) (rest := []) (st' := [(.int (f6_0 v0 (0 : Int32) (x1 - (2 : Int32)) (2 : Int32)))]) X hx hZ eT hown (hw _ (List.mem_of_getElem? (i := 30) rfl)) (hw _ (List.mem_of_getElem? (i := 31) rfl)) (hw _ (List.mem_of_getElem? (i := 3) rfl)) (hw _ (List.mem_of_getElem? (i := 32) rfl)) (by decide) (rm6 l Z ag hw [] a0 v0 (0 : Int32) (x1 - (2 : Int32)) (2 : Int32) h Aa0 (hs.2 c27).1) (by decide) (by decide) (by rw [hml]; rfl) pd_1 rfl rfl rfl rfl (hb hby d5_34) rfl rfl rfl (by decide) (by decide) rfl fun T31 X31 e31 => ?_
    refine o_ifP (P := (f6_0 v0 (0 : Int32) (x1 - (2 : Int32)) (2 : Int32)) = (0 : Int32)) (pc1 := 42) (pc2 := 40) X31 hx XT.i0_eq_t XT.i0_eq_f (hb hby d5_37) (by decide) (by decide) rfl (fun c32 => ?_) (fun c32 => ?_)
    · rw [if_pos c32] at hK
      exact b5_42 C a0 v0 x1 X31 e31 Aa0 ((hs.2 c27).2.1 c32) hK
    · rw [if_neg c32] at hK
      refine o_iconst (pc' := 41) (x := (2 : Int32)) X31 hx (hb hby d5_40) (by decide) rfl ?_
      exact o_retI X31 hx hret hlk (hb hby d5_41) (by decide) (by decide) e31 (hK)

def f5_0 (v0 : List Int32) (p1 : Int32) : Int32 := (if (p1 - (1 : Int32)) < (3 : Int32) then (f5_21 v0 p1) else (if (f6_0 v0 (0 : Int32) (p1 - (3 : Int32)) (3 : Int32)) = (0 : Int32) then (f5_21 v0 p1) else (3 : Int32)))
def s5_0 (v0 : List Int32) (p1 : Int32) : Prop := (((p1 - (1 : Int32)) < (3 : Int32) → s5_21 v0 p1) ∧ (¬ ((p1 - (1 : Int32)) < (3 : Int32)) → ((s6_0 v0 (0 : Int32) (p1 - (3 : Int32)) (3 : Int32)) ∧ (((f6_0 v0 (0 : Int32) (p1 - (3 : Int32)) (3 : Int32)) = (0 : Int32) → s5_21 v0 p1) ∧ (¬ ((f6_0 v0 (0 : Int32) (p1 - (3 : Int32)) (3 : Int32)) = (0 : Int32)) → True)))))
set_option maxRecDepth 65536 in
set_option maxHeartbeats 40000000 in
theorem b5_0 (C : own_Cx p s m meth c Z ag method_4_code 2 "com/example/bordertable/bordertable/BorderCoreNextPinLaw" (some .int) "border") {T : State} {h : Heap} (a0 : Addr) (v0 : List Int32) (p1 : Int32) (X : Stand p l e R5 s m args below meth c T [] 0 0) (eT : T.heap = h) (Aa0 : own_AI Z h a0 .int v0) (hs : s5_0 v0 p1) (hK : K (some (.int (f5_0 v0 p1))) h []) : own_Go p e below (own_Q s K cc5 ss5) T (mkF m 0 #[.val (.ref a0), .val (.int p1)] []) := by
  obtain ⟨hx, hZ, hw, hby, hml, hown, hret, hlk, hnm⟩ := id C
  unfold f5_0 at hK
  unfold s5_0 at hs
  refine o_iloadN (pc' := 1) X hx (hb hby d5_0) rfl rfl ?_
  refine o_iconst (pc' := 2) (x := (1 : Int32)) X hx (hb hby d5_1) (by decide) rfl ?_
  refine o_isub (pc' := 3)  X hx (hb hby d5_2) rfl rfl ?_
  refine o_iconst (pc' := 4) (x := (3 : Int32)) X hx (hb hby d5_3) (by decide) rfl ?_
  refine o_icP (P := (p1 - (1 : Int32)) < (3 : Int32)) (pc1 := 21) (pc2 := 7) X hx XT.ii_lt_t XT.ii_lt_f (hb hby d5_4) (by decide) (by decide) rfl (fun c26 => ?_) (fun c26 => ?_)
  · rw [if_pos c26] at hK
    exact b5_21 C a0 v0 p1 X eT Aa0 (hs.1 c26) hK
  · rw [if_neg c26] at hK
    refine o_aloadN (pc' := 8) X hx (hb hby d5_7) rfl rfl rfl ?_
    refine o_iconst (pc' := 9) (x := (0 : Int32)) X hx (hb hby d5_8) (by decide) rfl ?_
    refine o_iloadN (pc' := 10) X hx (hb hby d5_9) rfl rfl ?_
    refine o_iconst (pc' := 11) (x := (3 : Int32)) X hx (hb hby d5_10) (by decide) rfl ?_
    refine o_isub (pc' := 12)  X hx (hb hby d5_11) rfl rfl ?_
    refine o_iconst (pc' := 13) (x := (3 : Int32)) X hx (hb hby d5_12) (by decide) rfl ?_
    refine o_callP (W := 0) (pc' := 16) (argsL := [(.ref a0), (.int (0 : Int32)), (.int (p1 - (3 : Int32))), (.int (3 : Int32))]) (rest := []) (st' := [(.int (f6_0 v0 (0 : Int32) (p1 - (3 : Int32)) (3 : Int32)))]) X hx hZ eT hown (hw _ (List.mem_of_getElem? (i := 30) rfl)) (hw _ (List.mem_of_getElem? (i := 31) rfl)) (hw _ (List.mem_of_getElem? (i := 3) rfl)) (hw _ (List.mem_of_getElem? (i := 32) rfl)) (by decide) (rm6 l Z ag hw [] a0 v0 (0 : Int32) (p1 - (3 : Int32)) (3 : Int32) h Aa0 (hs.2 c26).1) (by decide) (by decide) (by rw [hml]; rfl) pd_1 rfl rfl rfl rfl (hb hby d5_13) rfl rfl rfl (by decide) (by decide) rfl fun T33 X33 e33 => ?_
    refine o_ifP (P := (f6_0 v0 (0 : Int32) (p1 - (3 : Int32)) (3 : Int32)) = (0 : Int32)) (pc1 := 21) (pc2 := 19) X33 hx XT.i0_eq_t XT.i0_eq_f (hb hby d5_16) (by decide) (by decide) rfl (fun c34 => ?_) (fun c34 => ?_)
    · rw [if_pos c34] at hK
      exact b5_21 C a0 v0 p1 X33 e33 Aa0 ((hs.2 c26).2.1 c34) hK
    · rw [if_neg c34] at hK
      refine o_iconst (pc' := 20) (x := (3 : Int32)) X33 hx (hb hby d5_19) (by decide) rfl ?_
      exact o_retI X33 hx hret hlk (hb hby d5_20) (by decide) (by decide) e33 (hK)

end Body5
theorem ef_5 (m : MethodId) (a0 : Addr) (p1 : Int32) : entryFrame m #[(.ref a0), (.int p1)] 2 = mkF m 0 #[.val (.ref a0), .val (.int p1)] [] := by first | (simp [entryFrame, mkF, argsToLocals, Value.category]; done) | rfl
set_option maxRecDepth 65536 in
set_option maxHeartbeats 40000000 in
theorem rm5 (l : Launch) (Z : State) (ag : Array Value) (hw : ∀ d ∈ tables_1, d.before ag Z = true) (ws : List Jvm.Cond) (a0 : Addr) (v0 : List Int32) (p1 : Int32) (h0 : Heap) (Aa0 : own_AI Z h0 a0 .int v0) (hs : s5_0 v0 p1) :
    MetFree l (⟨"com/example/bordertable/bordertable/BorderCoreNextPinLaw", "border", "([II)I"⟩ : MethodName) (head1 (Jvm.Cond.code (⟨"com/example/bordertable/bordertable/BorderCoreNextPinLaw", "border", "([II)I"⟩ : MethodName) method_4_code 2 (some .int) :: ws) R5) (fun a U => a = #[(.ref a0), (.int p1)] ∧ Z.Warmed39 U.vm ∧ U.heap = h0) (fun _ _ _ _ _ => True) (fun _ U o U' => ∃ v L, o = .returned v ∧ own_KP (some (.int (f5_0 v0 p1))) h0 v U'.heap L ∧ FrameEnd U o U' L R5.cells R5.slots) := by
  refine MetFree.of_bodySF (plainFor_of_name pn_BorderCoreNextPinLaw) hisR ?_
  intro p e s m args below meth c s₁ Bd hml0 hP hK
  obtain ⟨rfl, hZ, hh⟩ := hP
  have C : own_Cx p s m meth c Z ag method_4_code 2 "com/example/bordertable/bordertable/BorderCoreNextPinLaw" (some .int) "border" := ⟨Bd.exec, hZ, hw, Bd.bytes, hml0, findClass_of_methodNamed Bd.named, Bd.returns, Bd.notSynchronized, (name_of_methodNamed Bd.named Bd.method).1⟩
  have X0 : Stand p l e R5 s m #[(.ref a0), (.int p1)] below meth c s₁ [] 0 0 := Stand.of_body Bd
  have e0 : s₁.heap = h0 := by rw [← hh, Bd.state]; rfl
  rw [ef_5]
  exact b5_0 (K := own_KP (some (.int (f5_0 v0 p1))) h0) C a0 v0 p1 X0 e0 Aa0 hs ⟨rfl, rfl, rfl⟩

theorem d4_0 : decode prog_1_method_4_code 0 = .ok (.aload_n 0, 1) := by decide +kernel
theorem d4_1 : decode prog_1_method_4_code 1 = .ok (.getfield 18, 3) := by decide +kernel
theorem d4_4 : decode prog_1_method_4_code 4 = .ok (.arraylength, 1) := by decide +kernel
theorem d4_5 : decode prog_1_method_4_code 5 = .ok (.newarray .int, 2) := by decide +kernel
theorem d4_7 : decode prog_1_method_4_code 7 = .ok (.astore_n 1, 1) := by decide +kernel
theorem d4_8 : decode prog_1_method_4_code 8 = .ok (.aload_n 1, 1) := by decide +kernel
theorem d4_9 : decode prog_1_method_4_code 9 = .ok (.iconst 0, 1) := by decide +kernel
theorem d4_10 : decode prog_1_method_4_code 10 = .ok (.iconst (-1), 1) := by decide +kernel
theorem d4_11 : decode prog_1_method_4_code 11 = .ok (.iastore, 1) := by decide +kernel
theorem d4_12 : decode prog_1_method_4_code 12 = .ok (.aload_n 0, 1) := by decide +kernel
theorem d4_13 : decode prog_1_method_4_code 13 = .ok (.getfield 22, 3) := by decide +kernel
theorem d4_16 : decode prog_1_method_4_code 16 = .ok (.iconst 0, 1) := by decide +kernel
theorem d4_17 : decode prog_1_method_4_code 17 = .ok (.aload_n 1, 1) := by decide +kernel
theorem d4_18 : decode prog_1_method_4_code 18 = .ok (.iconst 1, 1) := by decide +kernel
theorem d4_19 : decode prog_1_method_4_code 19 = .ok (.aload_n 0, 1) := by decide +kernel
theorem d4_20 : decode prog_1_method_4_code 20 = .ok (.getfield 18, 3) := by decide +kernel
theorem d4_23 : decode prog_1_method_4_code 23 = .ok (.arraylength, 1) := by decide +kernel
theorem d4_24 : decode prog_1_method_4_code 24 = .ok (.iconst 1, 1) := by decide +kernel
theorem d4_25 : decode prog_1_method_4_code 25 = .ok (.isub, 1) := by decide +kernel
theorem d4_26 : decode prog_1_method_4_code 26 = .ok (.invokestatic 34, 3) := by decide +kernel
theorem d4_29 : decode prog_1_method_4_code 29 = .ok (.aload_n 1, 1) := by decide +kernel
theorem d4_30 : decode prog_1_method_4_code 30 = .ok (.areturn, 1) := by decide +kernel
section Body4
variable {p : Program} {l : Launch} {e : Env} {s : State} {m : MethodId} {args : Array Value} {below : List Frame} {meth : Method} {c : Code} {Z : State} {ag : Array Value} {K : Option Value → Heap → List Loc → Prop}
abbrev R4 : Room := { frames := 1, cells := 1, slots := 8, locals := 18 }
abbrev cc4 : Nat := 1
abbrev ss4 : Nat := 8
def f4_0 (v_border : List Int32) (v_pattern : List Int32) : List Int32 := (own_copy v_border (own_set (List.replicate (own_len v_pattern.length).toNatClampNeg (0 : Int32)) (0 : Int32) (-1 : Int32)) (0 : Int32) (1 : Int32) ((own_len v_pattern.length) - (1 : Int32)))
def s4_0 (v_border : List Int32) (v_pattern : List Int32) : Prop := (¬ ((own_len v_pattern.length) < 0) ∧ (own_len v_pattern.length).toNatClampNeg ≤ 8 ∧ own_in (List.replicate (own_len v_pattern.length).toNatClampNeg (0 : Int32)).length (0 : Int32) ∧ ¬ (((own_len v_pattern.length) - (1 : Int32)) < 0) ∧ own_fits v_border.length (0 : Int32) ((own_len v_pattern.length) - (1 : Int32)) ∧ own_fits (own_set (List.replicate (own_len v_pattern.length).toNatClampNeg (0 : Int32)) (0 : Int32) (-1 : Int32)).length (1 : Int32) ((own_len v_pattern.length) - (1 : Int32)) ∧ True)
set_option maxRecDepth 65536 in
set_option maxHeartbeats 40000000 in
theorem b4_0 (C : own_Cx p s m meth c Z ag prog_1_method_4_code 2 "com/example/bordertable/bordertable/BorderCore" (some (.array .int)) "next") {T : State} {h : Heap} {h0 : Heap} (a0 : Addr) (r_border : Addr) (v_border : List Int32) (r_pattern : Addr) (v_pattern : List Int32) (X : Stand p l e R4 s m args below meth c T [] 0 0) (eT : T.heap = h) (hs0 : s.heap = h0) (hKp : Keep h0 h []) (Ar_border : own_AI Z h r_border .int v_border) (Ar_pattern : own_AI Z h r_pattern .int v_pattern) (Ea0 : Exa Z h a0 "com/example/bordertable/bordertable/BorderCore") (Fa0_border : Fld Z h a0 "com/example/bordertable/bordertable/BorderCore" "border" "[I" (.ref r_border)) (Fa0_pattern : Fld Z h a0 "com/example/bordertable/bordertable/BorderCore" "pattern" "[I" (.ref r_pattern)) (hs : s4_0 v_border v_pattern) (hK : ∀ h' b, Keep h0 h' [] → h0.size ≤ b → own_AI Z h' b .int (f4_0 v_border v_pattern) → K (some (.ref b)) h' []) : own_Go p e below (own_Q s K cc4 ss4) T (mkF m 0 #[.val (.ref a0), .unset] []) := by
  obtain ⟨hx, hZ, hw, hby, hml, hown, hret, hlk, hnm⟩ := id C
  unfold f4_0 at hK
  unfold s4_0 at hs
  refine o_aloadN (pc' := 1) X hx (hb hby d4_0) rfl rfl rfl ?_
  refine o_getF (pc' := 4) X hx hZ eT hown (hw _ (List.mem_of_getElem? (i := 14) rfl)) Fa0_pattern (hb hby d4_1) rfl fun T35 X35 e35 => ?_
  refine o_alenI (pc' := 5)  X35 hx hZ e35 Ar_pattern (hb hby d4_4) rfl rfl ?_
  refine o_newI (pc' := 7) (cap := 8) (vs := (List.replicate (own_len v_pattern.length).toNatClampNeg (0 : Int32))) X35 hx hZ e35 (hw _ (List.mem_of_getElem? (i := 0) rfl)) rfl rfl (hb hby d4_5) rfl hs.1 hs.2.1 (by decide) (by decide) (by decide) rfl fun T36 h36 b36 X36 e36 q36 E36 A36 => ?_
  have g36 : s.heap.size ≤ b36 := q36 ▸ own_sz X35 e35
  have ne36_r_border : r_border ≠ b36 := Nat.ne_of_lt (q36 ▸ Ar_border.lt)
  have B36_r_border := Ar_border.ext E36
  have ne36_r_pattern : r_pattern ≠ b36 := Nat.ne_of_lt (q36 ▸ Ar_pattern.lt)
  have B36_r_pattern := Ar_pattern.ext E36
  have G36_a0_border := Fld.ext E36 Fa0_border
  have G36_a0_pattern := Fld.ext E36 Fa0_pattern
  have H36_a0 := Exa.ext E36 Ea0
  have P36 := hKp.ext E36
  refine o_astoreN (pc' := 8) (l' := #[.val (.ref a0), .val (.ref b36)]) X36 hx (hb hby d4_7) rfl rfl rfl ?_
  refine o_aloadN (pc' := 9) X36 hx (hb hby d4_8) rfl rfl rfl ?_
  refine o_iconst (pc' := 10) (x := (0 : Int32)) X36 hx (hb hby d4_9) (by decide) rfl ?_
  refine o_iconst (pc' := 11) (x := (-1 : Int32)) X36 hx (hb hby d4_10) (by decide) rfl ?_
  refine o_iastore (pc' := 12) (vs' := (own_set (List.replicate (own_len v_pattern.length).toNatClampNeg (0 : Int32)) (0 : Int32) (-1 : Int32))) X36 hx hZ e36 A36 hs.2.2.1 (hb hby d4_11) rfl rfl fun T37 h37 X37 e37 W37 A37 => ?_
  have B37_r_border := B36_r_border.other W37 ne36_r_border
  have B37_r_pattern := B36_r_pattern.other W37 ne36_r_pattern
  have G37_a0_border := Fld.other W37 G36_a0_border (Or.inl (own_neO H36_a0 (hw _ (List.mem_of_getElem? (i := 6) rfl)) A36))
  have G37_a0_pattern := Fld.other W37 G36_a0_pattern (Or.inl (own_neO H36_a0 (hw _ (List.mem_of_getElem? (i := 6) rfl)) A36))
  have H37_a0 := Exa.wr W37 H36_a0
  have Y37 := own_drop X37 g36
  have P37 := P36.wr W37 (Or.inr (by rw [← hs0]; exact g36))
  refine o_aloadN (pc' := 13) Y37 hx (hb hby d4_12) rfl rfl rfl ?_
  refine o_getF (pc' := 16) Y37 hx hZ e37 hown (hw _ (List.mem_of_getElem? (i := 16) rfl)) G37_a0_border (hb hby d4_13) rfl fun T38 X38 e38 => ?_
  refine o_iconst (pc' := 17) (x := (0 : Int32)) X38 hx (hb hby d4_16) (by decide) rfl ?_
  refine o_aloadN (pc' := 18) X38 hx (hb hby d4_17) rfl rfl rfl ?_
  refine o_iconst (pc' := 19) (x := (1 : Int32)) X38 hx (hb hby d4_18) (by decide) rfl ?_
  refine o_aloadN (pc' := 20) X38 hx (hb hby d4_19) rfl rfl rfl ?_
  refine o_getF (pc' := 23) X38 hx hZ e38 hown (hw _ (List.mem_of_getElem? (i := 14) rfl)) G37_a0_pattern (hb hby d4_20) rfl fun T39 X39 e39 => ?_
  refine o_alenI (pc' := 24)  X39 hx hZ e39 B37_r_pattern (hb hby d4_23) rfl rfl ?_
  refine o_iconst (pc' := 25) (x := (1 : Int32)) X39 hx (hb hby d4_24) (by decide) rfl ?_
  refine o_isub (pc' := 26)  X39 hx (hb hby d4_25) rfl rfl ?_
  refine o_copyI (W := 0) (pc' := 29) (vd' := (own_copy v_border (own_set (List.replicate (own_len v_pattern.length).toNatClampNeg (0 : Int32)) (0 : Int32) (-1 : Int32)) (0 : Int32) (1 : Int32) ((own_len v_pattern.length) - (1 : Int32)))) X39 hx hZ e39 hown (hw _ (List.mem_of_getElem? (i := 23) rfl)) (hw _ (List.mem_of_getElem? (i := 26) rfl)) (hw _ (List.mem_of_getElem? (i := 24) rfl)) (hw _ (List.mem_of_getElem? (i := 25) rfl)) B37_r_border A37 g36 hs.2.2.2.1 hs.2.2.2.2.1 hs.2.2.2.2.2.1 rfl (by rw [hml]; rfl) rfl (hb hby d4_26) rfl (by decide) (by decide) fun T40 h40 X40 e40 P40 A40 => ?_
  have B40_r_border := B37_r_border.keep P40 (fun q => absurd (List.mem_singleton.mp q) ne36_r_border)
  have B40_r_pattern := B37_r_pattern.keep P40 (fun q => absurd (List.mem_singleton.mp q) ne36_r_pattern)
  have G40_a0_border := Fld.keep G37_a0_border P40 (fun q => absurd (List.mem_singleton.mp q) (own_neO H37_a0 (hw _ (List.mem_of_getElem? (i := 6) rfl)) A37))
  have G40_a0_pattern := Fld.keep G37_a0_pattern P40 (fun q => absurd (List.mem_singleton.mp q) (own_neO H37_a0 (hw _ (List.mem_of_getElem? (i := 6) rfl)) A37))
  have H40_a0 := Exa.keep H37_a0 P40
  have R40 := P37.trans P40 (fun x hx => by cases List.mem_singleton.mp hx; exact Or.inr (by rw [← hs0]; exact g36))
  refine o_aloadN (pc' := 30) X40 hx (hb hby d4_29) rfl rfl rfl ?_
  exact o_retA X40 hx hret hlk (hb hby d4_30) (by decide) (by decide) e40 (hK _ _ R40 (by rw [← hs0]; exact g36) A40)

end Body4
theorem ef_4 (m : MethodId) (a0 : Addr) : entryFrame m #[(.ref a0)] 2 = mkF m 0 #[.val (.ref a0), .unset] [] := by first | (simp [entryFrame, mkF, argsToLocals, Value.category]; done) | rfl
set_option maxRecDepth 65536 in
set_option maxHeartbeats 40000000 in
theorem rm4 (l : Launch) (Z : State) (ag : Array Value) (hw : ∀ d ∈ tables_1, d.before ag Z = true) (ws : List Jvm.Cond) (a0 : Addr) (r_border : Addr) (v_border : List Int32) (r_pattern : Addr) (v_pattern : List Int32) (h0 : Heap) (Ar_border : own_AI Z h0 r_border .int v_border) (Ar_pattern : own_AI Z h0 r_pattern .int v_pattern) (Ea0 : Exa Z h0 a0 "com/example/bordertable/bordertable/BorderCore") (Fa0_border : Fld Z h0 a0 "com/example/bordertable/bordertable/BorderCore" "border" "[I" (.ref r_border)) (Fa0_pattern : Fld Z h0 a0 "com/example/bordertable/bordertable/BorderCore" "pattern" "[I" (.ref r_pattern)) (hs : s4_0 v_border v_pattern) :
    MetFree l (⟨"com/example/bordertable/bordertable/BorderCore", "next", "()[I"⟩ : MethodName) (head1 (Jvm.Cond.code (⟨"com/example/bordertable/bordertable/BorderCore", "next", "()[I"⟩ : MethodName) prog_1_method_4_code 2 (some (.array .int)) :: ws) R4) (fun a U => a = #[(.ref a0)] ∧ Z.Warmed39 U.vm ∧ U.heap = h0) (fun _ _ _ _ _ => True) (fun _ U o U' => ∃ v L, o = .returned v ∧ own_KM Z .int (f4_0 v_border v_pattern) h0 v U'.heap L ∧ FrameEnd U o U' L R4.cells R4.slots) := by
  refine MetFree.of_bodySF (plainFor_of_name pn_BorderCore) hisR ?_
  intro p e s m args below meth c s₁ Bd hml0 hP hK
  obtain ⟨rfl, hZ, hh⟩ := hP
  have C : own_Cx p s m meth c Z ag prog_1_method_4_code 2 "com/example/bordertable/bordertable/BorderCore" (some (.array .int)) "next" := ⟨Bd.exec, hZ, hw, Bd.bytes, hml0, findClass_of_methodNamed Bd.named, Bd.returns, Bd.notSynchronized, (name_of_methodNamed Bd.named Bd.method).1⟩
  have X0 : Stand p l e R4 s m #[(.ref a0)] below meth c s₁ [] 0 0 := Stand.of_body Bd
  have e0 : s₁.heap = h0 := by rw [← hh, Bd.state]; rfl
  rw [ef_4]
  exact b4_0 (K := own_KM Z .int (f4_0 v_border v_pattern) h0) C a0 r_border v_border r_pattern v_pattern X0 e0 hh (Keep.refl _ _) Ar_border Ar_pattern Ea0 Fa0_border Fa0_pattern hs (fun h' b q1 q2 q3 => ⟨b, rfl, rfl, q1, q2, q3⟩)

section Body0
variable {p : Program} {l : Launch} {e : Env} {s : State} {m : MethodId} {args : Array Value} {below : List Frame} {meth : Method} {c : Code} {Z : State} {ag : Array Value} {K : Option Value → Heap → List Loc → Prop}
abbrev R0 : Room := room_1
abbrev cc0 : Nat := 4
abbrev ss0 : Nat := 24
def f0_288 : Int32 := (1 : Int32)
set_option maxRecDepth 65536 in
set_option maxHeartbeats 40000000 in
theorem b0_288 (C : own_Cx p s m meth c Z ag code maxLocals "com/example/bordertable/bordertable/BorderCoreNextPinLaw" ret "law") {T : State} {h : Heap} {z0 : Slot} {z1 : Slot} {z2 : Slot} {z3 : Slot} {z4 : Slot} {z5 : Slot} {z6 : Slot} {z7 : Slot} {z8 : Slot} {z9 : Slot} {z10 : Slot} {z11 : Slot} {z12 : Slot} (X : Stand p l e R0 s m args below meth c T [] 4 24) (eT : T.heap = h) (hz0 : One z0) (hz1 : One z1) (hz2 : One z2) (hz3 : One z3) (hz4 : One z4) (hz5 : One z5) (hz6 : One z6) (hz7 : One z7) (hz8 : One z8) (hz9 : One z9) (hz10 : One z10) (hz11 : One z11) (hz12 : One z12) (hK : ∀ h', K (some (.int (f0_288))) h' []) : own_Go p e below (own_Q s K cc0 ss0) T (mkF m 288 #[z0, z1, z2, z3, z4, z5, z6, z7, z8, z9, z10, z11, z12] []) := by
  obtain ⟨hx, hZ, hw, hby, hml, hown, hret, hlk, hnm⟩ := id C
  unfold f0_288 at hK
  refine o_iconst (pc' := 289) (x := (1 : Int32)) X hx (hb hby at_288) (by decide) rfl ?_
  exact o_retN X hx (t := .boolean) hret (by simp) hlk (hb hby at_289) (by decide) (by decide) eT (hK _)

def f0_271 (x5 : Int32) (x10 : Int32) (v0 : List Int32) : Int32 := (if (4 : Int32) < x5 then (if (own_get v0 (4 : Int32)) = x10 then f0_288 else (0 : Int32)) else f0_288)
def s0_271 (x5 : Int32) (x10 : Int32) (v0 : List Int32) : Prop := (((4 : Int32) < x5 → (own_in v0.length (4 : Int32) ∧ True)) ∧ (¬ ((4 : Int32) < x5) → True))
set_option maxRecDepth 65536 in
set_option maxHeartbeats 40000000 in
theorem b0_271 (C : own_Cx p s m meth c Z ag code maxLocals "com/example/bordertable/bordertable/BorderCoreNextPinLaw" ret "law") {T : State} {h : Heap} {z0 : Slot} {z1 : Slot} {z2 : Slot} {z3 : Slot} {z4 : Slot} {z6 : Slot} {z7 : Slot} {z8 : Slot} {z9 : Slot} {z11 : Slot} (x5 : Int32) (x10 : Int32) (a0 : Addr) (v0 : List Int32) (X : Stand p l e R0 s m args below meth c T [] 4 24) (eT : T.heap = h) (Aa0 : own_AI Z h a0 .int v0) (ga0 : s.heap.size ≤ a0) (hz0 : One z0) (hz1 : One z1) (hz2 : One z2) (hz3 : One z3) (hz4 : One z4) (hz6 : One z6) (hz7 : One z7) (hz8 : One z8) (hz9 : One z9) (hz11 : One z11) (hs : s0_271 x5 x10 v0) (hK : ∀ h', K (some (.int (f0_271 x5 x10 v0))) h' []) : own_Go p e below (own_Q s K cc0 ss0) T (mkF m 271 #[z0, z1, z2, z3, z4, .val (.int x5), z6, z7, z8, z9, .val (.int x10), z11, .val (.ref a0)] []) := by
  obtain ⟨hx, hZ, hw, hby, hml, hown, hret, hlk, hnm⟩ := id C
  unfold f0_271 at hK
  unfold s0_271 at hs
  refine o_iload (pc' := 273) X hx (hb hby at_271) rfl rfl ?_
  refine o_iconst (pc' := 274) (x := (4 : Int32)) X hx (hb hby at_273) (by decide) rfl ?_
  refine o_icN (P := (4 : Int32) < x5) (pc1 := 288) (pc2 := 277) X hx XT.ii_le_f XT.ii_le_t (hb hby at_274) (by decide) (by decide) rfl (fun c60 => ?_) (fun c60 => ?_)
  · rw [if_neg c60] at hK
    exact b0_288 C X eT hz0 hz1 hz2 hz3 hz4 (One.val rfl) hz6 hz7 hz8 hz9 (One.val rfl) hz11 (One.val rfl) hK
  · rw [if_pos c60] at hK
    refine o_aload (pc' := 279) X hx (hb hby at_277) rfl rfl rfl ?_
    refine o_iconst (pc' := 280) (x := (4 : Int32)) X hx (hb hby at_279) (by decide) rfl ?_
    refine o_iaload (pc' := 281)  X hx hZ eT Aa0 (hs.1 c60).1 (hb hby at_280) rfl rfl ?_
    refine o_iload (pc' := 283) X hx (hb hby at_281) rfl rfl ?_
    refine o_icP (P := (own_get v0 (4 : Int32)) = x10) (pc1 := 288) (pc2 := 286) X hx XT.ii_eq_t XT.ii_eq_f (hb hby at_283) (by decide) (by decide) rfl (fun c61 => ?_) (fun c61 => ?_)
    · rw [if_pos c61] at hK
      exact b0_288 C X eT hz0 hz1 hz2 hz3 hz4 (One.val rfl) hz6 hz7 hz8 hz9 (One.val rfl) hz11 (One.val rfl) hK
    · rw [if_neg c61] at hK
      refine o_iconst (pc' := 287) (x := (0 : Int32)) X hx (hb hby at_286) (by decide) rfl ?_
      exact o_retN X hx (t := .boolean) hret (by simp) hlk (hb hby at_287) (by decide) (by decide) eT (hK _)

def f0_254 (x5 : Int32) (x9 : Int32) (x10 : Int32) (v0 : List Int32) : Int32 := (if (3 : Int32) < x5 then (if (own_get v0 (3 : Int32)) = x9 then (f0_271 x5 x10 v0) else (0 : Int32)) else (f0_271 x5 x10 v0))
def s0_254 (x5 : Int32) (x9 : Int32) (x10 : Int32) (v0 : List Int32) : Prop := (((3 : Int32) < x5 → (own_in v0.length (3 : Int32) ∧ (((own_get v0 (3 : Int32)) = x9 → s0_271 x5 x10 v0) ∧ (¬ ((own_get v0 (3 : Int32)) = x9) → True)))) ∧ (¬ ((3 : Int32) < x5) → s0_271 x5 x10 v0))
set_option maxRecDepth 65536 in
set_option maxHeartbeats 40000000 in
theorem b0_254 (C : own_Cx p s m meth c Z ag code maxLocals "com/example/bordertable/bordertable/BorderCoreNextPinLaw" ret "law") {T : State} {h : Heap} {z0 : Slot} {z1 : Slot} {z2 : Slot} {z3 : Slot} {z4 : Slot} {z6 : Slot} {z7 : Slot} {z8 : Slot} {z11 : Slot} (x5 : Int32) (x9 : Int32) (x10 : Int32) (a0 : Addr) (v0 : List Int32) (X : Stand p l e R0 s m args below meth c T [] 4 24) (eT : T.heap = h) (Aa0 : own_AI Z h a0 .int v0) (ga0 : s.heap.size ≤ a0) (hz0 : One z0) (hz1 : One z1) (hz2 : One z2) (hz3 : One z3) (hz4 : One z4) (hz6 : One z6) (hz7 : One z7) (hz8 : One z8) (hz11 : One z11) (hs : s0_254 x5 x9 x10 v0) (hK : ∀ h', K (some (.int (f0_254 x5 x9 x10 v0))) h' []) : own_Go p e below (own_Q s K cc0 ss0) T (mkF m 254 #[z0, z1, z2, z3, z4, .val (.int x5), z6, z7, z8, .val (.int x9), .val (.int x10), z11, .val (.ref a0)] []) := by
  obtain ⟨hx, hZ, hw, hby, hml, hown, hret, hlk, hnm⟩ := id C
  unfold f0_254 at hK
  unfold s0_254 at hs
  refine o_iload (pc' := 256) X hx (hb hby at_254) rfl rfl ?_
  refine o_iconst (pc' := 257) (x := (3 : Int32)) X hx (hb hby at_256) (by decide) rfl ?_
  refine o_icN (P := (3 : Int32) < x5) (pc1 := 271) (pc2 := 260) X hx XT.ii_le_f XT.ii_le_t (hb hby at_257) (by decide) (by decide) rfl (fun c59 => ?_) (fun c59 => ?_)
  · rw [if_neg c59] at hK
    exact b0_271 C x5 x10 a0 v0 X eT Aa0 ga0 hz0 hz1 hz2 hz3 hz4 hz6 hz7 hz8 (One.val rfl) hz11 (hs.2 c59) hK
  · rw [if_pos c59] at hK
    refine o_aload (pc' := 262) X hx (hb hby at_260) rfl rfl rfl ?_
    refine o_iconst (pc' := 263) (x := (3 : Int32)) X hx (hb hby at_262) (by decide) rfl ?_
    refine o_iaload (pc' := 264)  X hx hZ eT Aa0 (hs.1 c59).1 (hb hby at_263) rfl rfl ?_
    refine o_iload (pc' := 266) X hx (hb hby at_264) rfl rfl ?_
    refine o_icP (P := (own_get v0 (3 : Int32)) = x9) (pc1 := 271) (pc2 := 269) X hx XT.ii_eq_t XT.ii_eq_f (hb hby at_266) (by decide) (by decide) rfl (fun c62 => ?_) (fun c62 => ?_)
    · rw [if_pos c62] at hK
      exact b0_271 C x5 x10 a0 v0 X eT Aa0 ga0 hz0 hz1 hz2 hz3 hz4 hz6 hz7 hz8 (One.val rfl) hz11 ((hs.1 c59).2.1 c62) hK
    · rw [if_neg c62] at hK
      refine o_iconst (pc' := 270) (x := (0 : Int32)) X hx (hb hby at_269) (by decide) rfl ?_
      exact o_retN X hx (t := .boolean) hret (by simp) hlk (hb hby at_270) (by decide) (by decide) eT (hK _)

def f0_237 (x5 : Int32) (x8 : Int32) (x9 : Int32) (x10 : Int32) (v0 : List Int32) : Int32 := (if (2 : Int32) < x5 then (if (own_get v0 (2 : Int32)) = x8 then (f0_254 x5 x9 x10 v0) else (0 : Int32)) else (f0_254 x5 x9 x10 v0))
def s0_237 (x5 : Int32) (x8 : Int32) (x9 : Int32) (x10 : Int32) (v0 : List Int32) : Prop := (((2 : Int32) < x5 → (own_in v0.length (2 : Int32) ∧ (((own_get v0 (2 : Int32)) = x8 → s0_254 x5 x9 x10 v0) ∧ (¬ ((own_get v0 (2 : Int32)) = x8) → True)))) ∧ (¬ ((2 : Int32) < x5) → s0_254 x5 x9 x10 v0))
set_option maxRecDepth 65536 in
set_option maxHeartbeats 40000000 in
theorem b0_237 (C : own_Cx p s m meth c Z ag code maxLocals "com/example/bordertable/bordertable/BorderCoreNextPinLaw" ret "law") {T : State} {h : Heap} {z0 : Slot} {z1 : Slot} {z2 : Slot} {z3 : Slot} {z4 : Slot} {z6 : Slot} {z7 : Slot} {z11 : Slot} (x5 : Int32) (x8 : Int32) (x9 : Int32) (x10 : Int32) (a0 : Addr) (v0 : List Int32) (X : Stand p l e R0 s m args below meth c T [] 4 24) (eT : T.heap = h) (Aa0 : own_AI Z h a0 .int v0) (ga0 : s.heap.size ≤ a0) (hz0 : One z0) (hz1 : One z1) (hz2 : One z2) (hz3 : One z3) (hz4 : One z4) (hz6 : One z6) (hz7 : One z7) (hz11 : One z11) (hs : s0_237 x5 x8 x9 x10 v0) (hK : ∀ h', K (some (.int (f0_237 x5 x8 x9 x10 v0))) h' []) : own_Go p e below (own_Q s K cc0 ss0) T (mkF m 237 #[z0, z1, z2, z3, z4, .val (.int x5), z6, z7, .val (.int x8), .val (.int x9), .val (.int x10), z11, .val (.ref a0)] []) := by
  obtain ⟨hx, hZ, hw, hby, hml, hown, hret, hlk, hnm⟩ := id C
  unfold f0_237 at hK
  unfold s0_237 at hs
  refine o_iload (pc' := 239) X hx (hb hby at_237) rfl rfl ?_
  refine o_iconst (pc' := 240) (x := (2 : Int32)) X hx (hb hby at_239) (by decide) rfl ?_
  refine o_icN (P := (2 : Int32) < x5) (pc1 := 254) (pc2 := 243) X hx XT.ii_le_f XT.ii_le_t (hb hby at_240) (by decide) (by decide) rfl (fun c58 => ?_) (fun c58 => ?_)
  · rw [if_neg c58] at hK
    exact b0_254 C x5 x9 x10 a0 v0 X eT Aa0 ga0 hz0 hz1 hz2 hz3 hz4 hz6 hz7 (One.val rfl) hz11 (hs.2 c58) hK
  · rw [if_pos c58] at hK
    refine o_aload (pc' := 245) X hx (hb hby at_243) rfl rfl rfl ?_
    refine o_iconst (pc' := 246) (x := (2 : Int32)) X hx (hb hby at_245) (by decide) rfl ?_
    refine o_iaload (pc' := 247)  X hx hZ eT Aa0 (hs.1 c58).1 (hb hby at_246) rfl rfl ?_
    refine o_iload (pc' := 249) X hx (hb hby at_247) rfl rfl ?_
    refine o_icP (P := (own_get v0 (2 : Int32)) = x8) (pc1 := 254) (pc2 := 252) X hx XT.ii_eq_t XT.ii_eq_f (hb hby at_249) (by decide) (by decide) rfl (fun c63 => ?_) (fun c63 => ?_)
    · rw [if_pos c63] at hK
      exact b0_254 C x5 x9 x10 a0 v0 X eT Aa0 ga0 hz0 hz1 hz2 hz3 hz4 hz6 hz7 (One.val rfl) hz11 ((hs.1 c58).2.1 c63) hK
    · rw [if_neg c63] at hK
      refine o_iconst (pc' := 253) (x := (0 : Int32)) X hx (hb hby at_252) (by decide) rfl ?_
      exact o_retN X hx (t := .boolean) hret (by simp) hlk (hb hby at_253) (by decide) (by decide) eT (hK _)

def f0_208 : Int32 := (0 : Int32)
set_option maxRecDepth 65536 in
set_option maxHeartbeats 40000000 in
theorem b0_208 (C : own_Cx p s m meth c Z ag code maxLocals "com/example/bordertable/bordertable/BorderCoreNextPinLaw" ret "law") {T : State} {h : Heap} {z0 : Slot} {z1 : Slot} {z2 : Slot} {z3 : Slot} {z4 : Slot} {z5 : Slot} {z6 : Slot} {z7 : Slot} {z8 : Slot} {z9 : Slot} {z10 : Slot} {z11 : Slot} {z12 : Slot} (X : Stand p l e R0 s m args below meth c T [] 4 24) (eT : T.heap = h) (hz0 : One z0) (hz1 : One z1) (hz2 : One z2) (hz3 : One z3) (hz4 : One z4) (hz5 : One z5) (hz6 : One z6) (hz7 : One z7) (hz8 : One z8) (hz9 : One z9) (hz10 : One z10) (hz11 : One z11) (hz12 : One z12) (hK : ∀ h', K (some (.int (f0_208))) h' []) : own_Go p e below (own_Q s K cc0 ss0) T (mkF m 208 #[z0, z1, z2, z3, z4, z5, z6, z7, z8, z9, z10, z11, z12] []) := by
  obtain ⟨hx, hZ, hw, hby, hml, hown, hret, hlk, hnm⟩ := id C
  unfold f0_208 at hK
  refine o_iconst (pc' := 209) (x := (0 : Int32)) X hx (hb hby at_208) (by decide) rfl ?_
  exact o_retN X hx (t := .boolean) hret (by simp) hlk (hb hby at_209) (by decide) (by decide) eT (hK _)

def f0_175 (x5 : Int32) (v0 : List Int32) (x7 : Int32) (x8 : Int32) (x9 : Int32) (t0 : Int32) : Int32 := (if (own_len (f4_0 (f2_0 v0) v0).length) = x5 then (if (own_get (f4_0 (f2_0 v0) v0) (0 : Int32)) = (-1 : Int32) then (if (1 : Int32) < x5 then (if (own_get (f4_0 (f2_0 v0) v0) (1 : Int32)) = x7 then (f0_237 x5 x8 x9 t0 (f4_0 (f2_0 v0) v0)) else (0 : Int32)) else (f0_237 x5 x8 x9 t0 (f4_0 (f2_0 v0) v0))) else (0 : Int32)) else f0_208)
def s0_175 (x5 : Int32) (v0 : List Int32) (x7 : Int32) (x8 : Int32) (x9 : Int32) (t0 : Int32) : Prop := ((s2_0 v0) ∧ (s4_0 (f2_0 v0) v0) ∧ (((own_len (f4_0 (f2_0 v0) v0).length) = x5 → (own_in (f4_0 (f2_0 v0) v0).length (0 : Int32) ∧ (((own_get (f4_0 (f2_0 v0) v0) (0 : Int32)) = (-1 : Int32) → (((1 : Int32) < x5 → (own_in (f4_0 (f2_0 v0) v0).length (1 : Int32) ∧ (((own_get (f4_0 (f2_0 v0) v0) (1 : Int32)) = x7 → s0_237 x5 x8 x9 t0 (f4_0 (f2_0 v0) v0)) ∧ (¬ ((own_get (f4_0 (f2_0 v0) v0) (1 : Int32)) = x7) → True)))) ∧ (¬ ((1 : Int32) < x5) → s0_237 x5 x8 x9 t0 (f4_0 (f2_0 v0) v0)))) ∧ (¬ ((own_get (f4_0 (f2_0 v0) v0) (0 : Int32)) = (-1 : Int32)) → True)))) ∧ (¬ ((own_len (f4_0 (f2_0 v0) v0).length) = x5) → True)))
set_option maxRecDepth 65536 in
set_option maxHeartbeats 40000000 in
theorem b0_175 (C : own_Cx p s m meth c Z ag code maxLocals "com/example/bordertable/bordertable/BorderCoreNextPinLaw" ret "law") {T : State} {h : Heap} {z0 : Slot} {z1 : Slot} {z2 : Slot} {z3 : Slot} {z4 : Slot} {z10 : Slot} {z11 : Slot} {z12 : Slot} (x5 : Int32) (a0 : Addr) (v0 : List Int32) (x7 : Int32) (x8 : Int32) (x9 : Int32) (t0 : Int32) (X : Stand p l e R0 s m args below meth c T [] 1 5) (eT : T.heap = h) (Aa0 : own_AI Z h a0 .int v0) (ga0 : s.heap.size ≤ a0) (hz0 : One z0) (hz1 : One z1) (hz2 : One z2) (hz3 : One z3) (hz4 : One z4) (hz10 : One z10) (hz11 : One z11) (hz12 : One z12) (hs : s0_175 x5 v0 x7 x8 x9 t0) (hK : ∀ h', K (some (.int (f0_175 x5 v0 x7 x8 x9 t0))) h' []) : own_Go p e below (own_Q s K cc0 ss0) T (mkF m 175 #[z0, z1, z2, z3, z4, .val (.int x5), .val (.ref a0), .val (.int x7), .val (.int x8), .val (.int x9), z10, z11, z12] [(.int t0)]) := by
  obtain ⟨hx, hZ, hw, hby, hml, hown, hret, hlk, hnm⟩ := id C
  unfold f0_175 at hK
  unfold s0_175 at hs
  refine o_istoreS (pc' := 177) (l' := #[z0, z1, z2, z3, z4, .val (.int x5), .val (.ref a0), .val (.int x7), .val (.int x8), .val (.int x9), .val (.int t0), z11, z12]) X hx (hb hby at_175) rfl hz10 rfl rfl ?_
  refine o_newO (pc' := 180) X hx hZ eT hown (hw _ (List.mem_of_getElem? (i := 5) rfl)) (hw _ (List.mem_of_getElem? (i := 6) rfl)) (hw _ (List.mem_of_getElem? (i := 7) rfl)) (hb hby at_177) rfl (by decide) (by decide) fun T52 h52 b52 X52 e52 q52 E52 A52 D52 => ?_
  have g52 : s.heap.size ≤ b52 := q52 ▸ own_sz X eT
  have B52_a0 := Aa0.ext E52
  have F52_pattern : Fld Z h52 b52 "com/example/bordertable/bordertable/BorderCore" "pattern" "[I" .null := D52 (Or.inr (hw _ (List.mem_of_getElem? (i := 15) rfl))) (ty := (.array .int)) (by decide)
  have F52_border : Fld Z h52 b52 "com/example/bordertable/bordertable/BorderCore" "border" "[I" .null := D52 (Or.inr (hw _ (List.mem_of_getElem? (i := 17) rfl))) (ty := (.array .int)) (by decide)
  refine o_dup (pc' := 181) X52 hx (hb hby at_180) rfl rfl ?_
  refine o_aload (pc' := 183) X52 hx (hb hby at_181) rfl rfl rfl ?_
  refine o_ctor (W := 1) (pc' := 186) (a := b52) (argsL := [(.ref a0)]) (rest := [(.ref b52)]) X52 hx hZ e52 rfl hown (hw _ (List.mem_of_getElem? (i := 8) rfl)) (hw _ (List.mem_of_getElem? (i := 9) rfl)) (hw _ (List.mem_of_getElem? (i := 7) rfl)) (hw _ (List.mem_of_getElem? (i := 10) rfl)) (by decide) (rm2 l Z ag hw [] b52 a0 v0 h52 B52_a0 A52 F52_border F52_pattern hs.1) (by decide) (by decide) (by rw [hml]; rfl) pd_3 rfl rfl rfl rfl (hb hby at_183) rfl (by decide) (by decide) fun v53 T53 L53 X53 k53 => ?_
  obtain ⟨rfl, N53, P53, u_border_53, H53_b52, G53_b52_border, A53, z53, G53_b52_pattern⟩ := k53
  have B53_a0 := B52_a0.keep P53 (fun q => absurd (List.mem_singleton.mp q) (Ne.symm (own_neO A52 (hw _ (List.mem_of_getElem? (i := 6) rfl)) B52_a0)))
  have g53 : s.heap.size ≤ u_border_53 := Nat.le_trans (own_sz X52 e52) z53
  have ne53_a0 : a0 ≠ u_border_53 := Nat.ne_of_lt (Nat.lt_of_lt_of_le (B52_a0).lt z53)
  have Y53 : Stand p l e R0 s m args below meth c T53 [] 3 16 := own_dropL (k := b52) X53 g52 (fun y hy => Nat.le_of_eq (N53 y hy).symm)
  show own_Go p e below _ T53 (mkF m 186 #[z0, z1, z2, z3, z4, .val (.int x5), .val (.ref a0), .val (.int x7), .val (.int x8), .val (.int x9), .val (.int t0), z11, z12] [(.ref b52)])
  refine o_astoreS (pc' := 188) (l' := #[z0, z1, z2, z3, z4, .val (.int x5), .val (.ref a0), .val (.int x7), .val (.int x8), .val (.int x9), .val (.int t0), .val (.ref b52), z12]) Y53 hx (hb hby at_186) rfl rfl rfl hz11 rfl rfl ?_
  refine o_aload (pc' := 190) Y53 hx (hb hby at_188) rfl rfl rfl ?_
  refine o_callV (W := 0) (pc' := 193) (a := b52) (argsL := []) (rest := []) Y53 hx hZ rfl hown (hw _ (List.mem_of_getElem? (i := 18) rfl)) (hw _ (List.mem_of_getElem? (i := 19) rfl)) (hw _ (List.mem_of_getElem? (i := 21) rfl)) (hw _ (List.mem_of_getElem? (i := 20) rfl)) (hw _ (List.mem_of_getElem? (i := 7) rfl)) (hw _ (List.mem_of_getElem? (i := 22) rfl)) (by decide) (rm4 l Z ag hw [] b52 u_border_53 (f2_0 v0) a0 v0 T53.heap A53 B53_a0 H53_b52 G53_b52_border G53_b52_pattern hs.2.1) (by decide) (by decide) (by rw [hml]; rfl) H53_b52 pd_4 rfl rfl rfl rfl (hb hby at_190) rfl (by decide) (by decide) fun v54 T54 L54 X54 k54 => ?_
  obtain ⟨b54, rfl, rfl, P54, z54, A54⟩ := k54
  have Y54 : Stand p l e R0 s m args below meth c T54 [] 4 24 := own_nil X54
  have g54 : s.heap.size ≤ b54 := Nat.le_trans (own_sz Y53 rfl) z54
  have ne54_a0 : a0 ≠ b54 := Nat.ne_of_lt (Nat.lt_of_lt_of_le B53_a0.lt z54)
  have B54_a0 := B53_a0.keep P54 (fun q => nomatch q)
  have ne54_u_border_53 : u_border_53 ≠ b54 := Nat.ne_of_lt (Nat.lt_of_lt_of_le A53.lt z54)
  have B54_u_border_53 := A53.keep P54 (fun q => nomatch q)
  have G54_b52_pattern := Fld.keep G53_b52_pattern P54 (fun q => nomatch q)
  have G54_b52_border := Fld.keep G53_b52_border P54 (fun q => nomatch q)
  have H54_b52 := Exa.keep H53_b52 P54
  show own_Go p e below _ T54 (mkF m 193 #[z0, z1, z2, z3, z4, .val (.int x5), .val (.ref a0), .val (.int x7), .val (.int x8), .val (.int x9), .val (.int t0), .val (.ref b52), z12] [(.ref b54)])
  refine o_astoreS (pc' := 195) (l' := #[z0, z1, z2, z3, z4, .val (.int x5), .val (.ref a0), .val (.int x7), .val (.int x8), .val (.int x9), .val (.int t0), .val (.ref b52), .val (.ref b54)]) Y54 hx (hb hby at_193) rfl rfl rfl hz12 rfl rfl ?_
  refine o_aload (pc' := 197) Y54 hx (hb hby at_195) rfl rfl rfl ?_
  refine o_ifnullX (pc' := 200) Y54 hx (hb hby at_197) rfl ?_
  refine o_aload (pc' := 202) Y54 hx (hb hby at_200) rfl rfl rfl ?_
  refine o_alenI (pc' := 203)  Y54 hx hZ rfl A54 (hb hby at_202) rfl rfl ?_
  refine o_iload (pc' := 205) Y54 hx (hb hby at_203) rfl rfl ?_
  refine o_icP (P := (own_len (f4_0 (f2_0 v0) v0).length) = x5) (pc1 := 210) (pc2 := 208) Y54 hx XT.ii_eq_t XT.ii_eq_f (hb hby at_205) (by decide) (by decide) rfl (fun c55 => ?_) (fun c55 => ?_)
  · rw [if_pos c55] at hK
    refine o_aload (pc' := 212) Y54 hx (hb hby at_210) rfl rfl rfl ?_
    refine o_iconst (pc' := 213) (x := (0 : Int32)) Y54 hx (hb hby at_212) (by decide) rfl ?_
    refine o_iaload (pc' := 214)  Y54 hx hZ rfl A54 (hs.2.2.1 c55).1 (hb hby at_213) rfl rfl ?_
    refine o_iconst (pc' := 215) (x := (-1 : Int32)) Y54 hx (hb hby at_214) (by decide) rfl ?_
    refine o_icP (P := (own_get (f4_0 (f2_0 v0) v0) (0 : Int32)) = (-1 : Int32)) (pc1 := 220) (pc2 := 218) Y54 hx XT.ii_eq_t XT.ii_eq_f (hb hby at_215) (by decide) (by decide) rfl (fun c56 => ?_) (fun c56 => ?_)
    · rw [if_pos c56] at hK
      refine o_iload (pc' := 222) Y54 hx (hb hby at_220) rfl rfl ?_
      refine o_iconst (pc' := 223) (x := (1 : Int32)) Y54 hx (hb hby at_222) (by decide) rfl ?_
      refine o_icN (P := (1 : Int32) < x5) (pc1 := 237) (pc2 := 226) Y54 hx XT.ii_le_f XT.ii_le_t (hb hby at_223) (by decide) (by decide) rfl (fun c57 => ?_) (fun c57 => ?_)
      · rw [if_neg c57] at hK
        exact b0_237 C x5 x8 x9 t0 b54 (f4_0 (f2_0 v0) v0) Y54 rfl A54 g54 hz0 hz1 hz2 hz3 hz4 (One.val rfl) (One.val rfl) (One.val rfl) (((hs.2.2.1 c55).2.1 c56).2 c57) hK
      · rw [if_pos c57] at hK
        refine o_aload (pc' := 228) Y54 hx (hb hby at_226) rfl rfl rfl ?_
        refine o_iconst (pc' := 229) (x := (1 : Int32)) Y54 hx (hb hby at_228) (by decide) rfl ?_
        refine o_iaload (pc' := 230)  Y54 hx hZ rfl A54 (((hs.2.2.1 c55).2.1 c56).1 c57).1 (hb hby at_229) rfl rfl ?_
        refine o_iload (pc' := 232) Y54 hx (hb hby at_230) rfl rfl ?_
        refine o_icP (P := (own_get (f4_0 (f2_0 v0) v0) (1 : Int32)) = x7) (pc1 := 237) (pc2 := 235) Y54 hx XT.ii_eq_t XT.ii_eq_f (hb hby at_232) (by decide) (by decide) rfl (fun c64 => ?_) (fun c64 => ?_)
        · rw [if_pos c64] at hK
          exact b0_237 C x5 x8 x9 t0 b54 (f4_0 (f2_0 v0) v0) Y54 rfl A54 g54 hz0 hz1 hz2 hz3 hz4 (One.val rfl) (One.val rfl) (One.val rfl) ((((hs.2.2.1 c55).2.1 c56).1 c57).2.1 c64) hK
        · rw [if_neg c64] at hK
          refine o_iconst (pc' := 236) (x := (0 : Int32)) Y54 hx (hb hby at_235) (by decide) rfl ?_
          exact o_retN Y54 hx (t := .boolean) hret (by simp) hlk (hb hby at_236) (by decide) (by decide) rfl (hK _)
    · rw [if_neg c56] at hK
      refine o_iconst (pc' := 219) (x := (0 : Int32)) Y54 hx (hb hby at_218) (by decide) rfl ?_
      exact o_retN Y54 hx (t := .boolean) hret (by simp) hlk (hb hby at_219) (by decide) (by decide) rfl (hK _)
  · rw [if_neg c55] at hK
    exact b0_208 C Y54 rfl hz0 hz1 hz2 hz3 hz4 (One.val rfl) (One.val rfl) (One.val rfl) (One.val rfl) (One.val rfl) (One.val rfl) (One.val rfl) (One.val rfl) hK

def f0_157 (x5 : Int32) (v0 : List Int32) (x7 : Int32) (x8 : Int32) (t0 : Int32) : Int32 := (if (4 : Int32) < x5 then (f0_175 x5 v0 x7 x8 t0 (f5_0 v0 (4 : Int32))) else (f0_175 x5 v0 x7 x8 t0 (0 : Int32)))
def s0_157 (x5 : Int32) (v0 : List Int32) (x7 : Int32) (x8 : Int32) (t0 : Int32) : Prop := (((4 : Int32) < x5 → ((s5_0 v0 (4 : Int32)) ∧ s0_175 x5 v0 x7 x8 t0 (f5_0 v0 (4 : Int32)))) ∧ (¬ ((4 : Int32) < x5) → s0_175 x5 v0 x7 x8 t0 (0 : Int32)))
set_option maxRecDepth 65536 in
set_option maxHeartbeats 40000000 in
theorem b0_157 (C : own_Cx p s m meth c Z ag code maxLocals "com/example/bordertable/bordertable/BorderCoreNextPinLaw" ret "law") {T : State} {h : Heap} {z0 : Slot} {z1 : Slot} {z2 : Slot} {z3 : Slot} {z4 : Slot} {z9 : Slot} {z10 : Slot} {z11 : Slot} {z12 : Slot} (x5 : Int32) (a0 : Addr) (v0 : List Int32) (x7 : Int32) (x8 : Int32) (t0 : Int32) (X : Stand p l e R0 s m args below meth c T [] 1 5) (eT : T.heap = h) (Aa0 : own_AI Z h a0 .int v0) (ga0 : s.heap.size ≤ a0) (hz0 : One z0) (hz1 : One z1) (hz2 : One z2) (hz3 : One z3) (hz4 : One z4) (hz9 : One z9) (hz10 : One z10) (hz11 : One z11) (hz12 : One z12) (hs : s0_157 x5 v0 x7 x8 t0) (hK : ∀ h', K (some (.int (f0_157 x5 v0 x7 x8 t0))) h' []) : own_Go p e below (own_Q s K cc0 ss0) T (mkF m 157 #[z0, z1, z2, z3, z4, .val (.int x5), .val (.ref a0), .val (.int x7), .val (.int x8), z9, z10, z11, z12] [(.int t0)]) := by
  obtain ⟨hx, hZ, hw, hby, hml, hown, hret, hlk, hnm⟩ := id C
  unfold f0_157 at hK
  unfold s0_157 at hs
  refine o_istoreS (pc' := 159) (l' := #[z0, z1, z2, z3, z4, .val (.int x5), .val (.ref a0), .val (.int x7), .val (.int x8), .val (.int t0), z10, z11, z12]) X hx (hb hby at_157) rfl hz9 rfl rfl ?_
  refine o_iload (pc' := 161) X hx (hb hby at_159) rfl rfl ?_
  refine o_iconst (pc' := 162) (x := (4 : Int32)) X hx (hb hby at_161) (by decide) rfl ?_
  refine o_icN (P := (4 : Int32) < x5) (pc1 := 174) (pc2 := 165) X hx XT.ii_le_f XT.ii_le_t (hb hby at_162) (by decide) (by decide) rfl (fun c51 => ?_) (fun c51 => ?_)
  · rw [if_neg c51] at hK
    refine o_iconst (pc' := 175) (x := (0 : Int32)) X hx (hb hby at_174) (by decide) rfl ?_
    exact b0_175 C x5 a0 v0 x7 x8 t0 (0 : Int32) X eT Aa0 ga0 hz0 hz1 hz2 hz3 hz4 hz10 hz11 hz12 (hs.2 c51) hK
  · rw [if_pos c51] at hK
    refine o_aload (pc' := 167) X hx (hb hby at_165) rfl rfl rfl ?_
    refine o_iconst (pc' := 168) (x := (4 : Int32)) X hx (hb hby at_167) (by decide) rfl ?_
    refine o_callP (W := 0) (pc' := 171) (argsL := [(.ref a0), (.int (4 : Int32))]) (rest := []) (st' := [(.int (f5_0 v0 (4 : Int32)))]) X hx hZ eT hown (hw _ (List.mem_of_getElem? (i := 27) rfl)) (hw _ (List.mem_of_getElem? (i := 28) rfl)) (hw _ (List.mem_of_getElem? (i := 3) rfl)) (hw _ (List.mem_of_getElem? (i := 29) rfl)) (by decide) (rm5 l Z ag hw [] a0 v0 (4 : Int32) h Aa0 (hs.1 c51).1) (by decide) (by decide) (by rw [hml]; rfl) pd_5 rfl rfl rfl rfl (hb hby at_168) rfl rfl rfl (by decide) (by decide) rfl fun T65 X65 e65 => ?_
    refine o_goto (pc' := 175) X65 hx (hb hby at_171) (by decide) (by decide) ?_
    exact b0_175 C x5 a0 v0 x7 x8 t0 (f5_0 v0 (4 : Int32)) X65 e65 Aa0 ga0 hz0 hz1 hz2 hz3 hz4 hz10 hz11 hz12 (hs.1 c51).2 hK

def f0_139 (x5 : Int32) (v0 : List Int32) (x7 : Int32) (t0 : Int32) : Int32 := (if (3 : Int32) < x5 then (f0_157 x5 v0 x7 t0 (f5_0 v0 (3 : Int32))) else (f0_157 x5 v0 x7 t0 (0 : Int32)))
def s0_139 (x5 : Int32) (v0 : List Int32) (x7 : Int32) (t0 : Int32) : Prop := (((3 : Int32) < x5 → ((s5_0 v0 (3 : Int32)) ∧ s0_157 x5 v0 x7 t0 (f5_0 v0 (3 : Int32)))) ∧ (¬ ((3 : Int32) < x5) → s0_157 x5 v0 x7 t0 (0 : Int32)))
set_option maxRecDepth 65536 in
set_option maxHeartbeats 40000000 in
theorem b0_139 (C : own_Cx p s m meth c Z ag code maxLocals "com/example/bordertable/bordertable/BorderCoreNextPinLaw" ret "law") {T : State} {h : Heap} {z0 : Slot} {z1 : Slot} {z2 : Slot} {z3 : Slot} {z4 : Slot} {z8 : Slot} {z9 : Slot} {z10 : Slot} {z11 : Slot} {z12 : Slot} (x5 : Int32) (a0 : Addr) (v0 : List Int32) (x7 : Int32) (t0 : Int32) (X : Stand p l e R0 s m args below meth c T [] 1 5) (eT : T.heap = h) (Aa0 : own_AI Z h a0 .int v0) (ga0 : s.heap.size ≤ a0) (hz0 : One z0) (hz1 : One z1) (hz2 : One z2) (hz3 : One z3) (hz4 : One z4) (hz8 : One z8) (hz9 : One z9) (hz10 : One z10) (hz11 : One z11) (hz12 : One z12) (hs : s0_139 x5 v0 x7 t0) (hK : ∀ h', K (some (.int (f0_139 x5 v0 x7 t0))) h' []) : own_Go p e below (own_Q s K cc0 ss0) T (mkF m 139 #[z0, z1, z2, z3, z4, .val (.int x5), .val (.ref a0), .val (.int x7), z8, z9, z10, z11, z12] [(.int t0)]) := by
  obtain ⟨hx, hZ, hw, hby, hml, hown, hret, hlk, hnm⟩ := id C
  unfold f0_139 at hK
  unfold s0_139 at hs
  refine o_istoreS (pc' := 141) (l' := #[z0, z1, z2, z3, z4, .val (.int x5), .val (.ref a0), .val (.int x7), .val (.int t0), z9, z10, z11, z12]) X hx (hb hby at_139) rfl hz8 rfl rfl ?_
  refine o_iload (pc' := 143) X hx (hb hby at_141) rfl rfl ?_
  refine o_iconst (pc' := 144) (x := (3 : Int32)) X hx (hb hby at_143) (by decide) rfl ?_
  refine o_icN (P := (3 : Int32) < x5) (pc1 := 156) (pc2 := 147) X hx XT.ii_le_f XT.ii_le_t (hb hby at_144) (by decide) (by decide) rfl (fun c50 => ?_) (fun c50 => ?_)
  · rw [if_neg c50] at hK
    refine o_iconst (pc' := 157) (x := (0 : Int32)) X hx (hb hby at_156) (by decide) rfl ?_
    exact b0_157 C x5 a0 v0 x7 t0 (0 : Int32) X eT Aa0 ga0 hz0 hz1 hz2 hz3 hz4 hz9 hz10 hz11 hz12 (hs.2 c50) hK
  · rw [if_pos c50] at hK
    refine o_aload (pc' := 149) X hx (hb hby at_147) rfl rfl rfl ?_
    refine o_iconst (pc' := 150) (x := (3 : Int32)) X hx (hb hby at_149) (by decide) rfl ?_
    refine o_callP (W := 0) (pc' := 153) (argsL := [(.ref a0), (.int (3 : Int32))]) (rest := []) (st' := [(.int (f5_0 v0 (3 : Int32)))]) X hx hZ eT hown (hw _ (List.mem_of_getElem? (i := 27) rfl)) (hw _ (List.mem_of_getElem? (i := 28) rfl)) (hw _ (List.mem_of_getElem? (i := 3) rfl)) (hw _ (List.mem_of_getElem? (i := 29) rfl)) (by decide) (rm5 l Z ag hw [] a0 v0 (3 : Int32) h Aa0 (hs.1 c50).1) (by decide) (by decide) (by rw [hml]; rfl) pd_5 rfl rfl rfl rfl (hb hby at_150) rfl rfl rfl (by decide) (by decide) rfl fun T66 X66 e66 => ?_
    refine o_goto (pc' := 157) X66 hx (hb hby at_153) (by decide) (by decide) ?_
    exact b0_157 C x5 a0 v0 x7 t0 (f5_0 v0 (3 : Int32)) X66 e66 Aa0 ga0 hz0 hz1 hz2 hz3 hz4 hz9 hz10 hz11 hz12 (hs.1 c50).2 hK

def f0_121 (x5 : Int32) (v0 : List Int32) (t0 : Int32) : Int32 := (if (2 : Int32) < x5 then (f0_139 x5 v0 t0 (f5_0 v0 (2 : Int32))) else (f0_139 x5 v0 t0 (0 : Int32)))
def s0_121 (x5 : Int32) (v0 : List Int32) (t0 : Int32) : Prop := (((2 : Int32) < x5 → ((s5_0 v0 (2 : Int32)) ∧ s0_139 x5 v0 t0 (f5_0 v0 (2 : Int32)))) ∧ (¬ ((2 : Int32) < x5) → s0_139 x5 v0 t0 (0 : Int32)))
set_option maxRecDepth 65536 in
set_option maxHeartbeats 40000000 in
theorem b0_121 (C : own_Cx p s m meth c Z ag code maxLocals "com/example/bordertable/bordertable/BorderCoreNextPinLaw" ret "law") {T : State} {h : Heap} {z0 : Slot} {z1 : Slot} {z2 : Slot} {z3 : Slot} {z4 : Slot} {z7 : Slot} {z8 : Slot} {z9 : Slot} {z10 : Slot} {z11 : Slot} {z12 : Slot} (x5 : Int32) (a0 : Addr) (v0 : List Int32) (t0 : Int32) (X : Stand p l e R0 s m args below meth c T [] 1 5) (eT : T.heap = h) (Aa0 : own_AI Z h a0 .int v0) (ga0 : s.heap.size ≤ a0) (hz0 : One z0) (hz1 : One z1) (hz2 : One z2) (hz3 : One z3) (hz4 : One z4) (hz7 : One z7) (hz8 : One z8) (hz9 : One z9) (hz10 : One z10) (hz11 : One z11) (hz12 : One z12) (hs : s0_121 x5 v0 t0) (hK : ∀ h', K (some (.int (f0_121 x5 v0 t0))) h' []) : own_Go p e below (own_Q s K cc0 ss0) T (mkF m 121 #[z0, z1, z2, z3, z4, .val (.int x5), .val (.ref a0), z7, z8, z9, z10, z11, z12] [(.int t0)]) := by
  obtain ⟨hx, hZ, hw, hby, hml, hown, hret, hlk, hnm⟩ := id C
  unfold f0_121 at hK
  unfold s0_121 at hs
  refine o_istoreS (pc' := 123) (l' := #[z0, z1, z2, z3, z4, .val (.int x5), .val (.ref a0), .val (.int t0), z8, z9, z10, z11, z12]) X hx (hb hby at_121) rfl hz7 rfl rfl ?_
  refine o_iload (pc' := 125) X hx (hb hby at_123) rfl rfl ?_
  refine o_iconst (pc' := 126) (x := (2 : Int32)) X hx (hb hby at_125) (by decide) rfl ?_
  refine o_icN (P := (2 : Int32) < x5) (pc1 := 138) (pc2 := 129) X hx XT.ii_le_f XT.ii_le_t (hb hby at_126) (by decide) (by decide) rfl (fun c49 => ?_) (fun c49 => ?_)
  · rw [if_neg c49] at hK
    refine o_iconst (pc' := 139) (x := (0 : Int32)) X hx (hb hby at_138) (by decide) rfl ?_
    exact b0_139 C x5 a0 v0 t0 (0 : Int32) X eT Aa0 ga0 hz0 hz1 hz2 hz3 hz4 hz8 hz9 hz10 hz11 hz12 (hs.2 c49) hK
  · rw [if_pos c49] at hK
    refine o_aload (pc' := 131) X hx (hb hby at_129) rfl rfl rfl ?_
    refine o_iconst (pc' := 132) (x := (2 : Int32)) X hx (hb hby at_131) (by decide) rfl ?_
    refine o_callP (W := 0) (pc' := 135) (argsL := [(.ref a0), (.int (2 : Int32))]) (rest := []) (st' := [(.int (f5_0 v0 (2 : Int32)))]) X hx hZ eT hown (hw _ (List.mem_of_getElem? (i := 27) rfl)) (hw _ (List.mem_of_getElem? (i := 28) rfl)) (hw _ (List.mem_of_getElem? (i := 3) rfl)) (hw _ (List.mem_of_getElem? (i := 29) rfl)) (by decide) (rm5 l Z ag hw [] a0 v0 (2 : Int32) h Aa0 (hs.1 c49).1) (by decide) (by decide) (by rw [hml]; rfl) pd_5 rfl rfl rfl rfl (hb hby at_132) rfl rfl rfl (by decide) (by decide) rfl fun T67 X67 e67 => ?_
    refine o_goto (pc' := 139) X67 hx (hb hby at_135) (by decide) (by decide) ?_
    exact b0_139 C x5 a0 v0 t0 (f5_0 v0 (2 : Int32)) X67 e67 Aa0 ga0 hz0 hz1 hz2 hz3 hz4 hz8 hz9 hz10 hz11 hz12 (hs.1 c49).2 hK

def f0_105 (x5 : Int32) (v0 : List Int32) : Int32 := (if (1 : Int32) < x5 then (f0_121 x5 v0 (f5_0 v0 (1 : Int32))) else (f0_121 x5 v0 (0 : Int32)))
def s0_105 (x5 : Int32) (v0 : List Int32) : Prop := (((1 : Int32) < x5 → ((s5_0 v0 (1 : Int32)) ∧ s0_121 x5 v0 (f5_0 v0 (1 : Int32)))) ∧ (¬ ((1 : Int32) < x5) → s0_121 x5 v0 (0 : Int32)))
set_option maxRecDepth 65536 in
set_option maxHeartbeats 40000000 in
theorem b0_105 (C : own_Cx p s m meth c Z ag code maxLocals "com/example/bordertable/bordertable/BorderCoreNextPinLaw" ret "law") {T : State} {h : Heap} {z0 : Slot} {z1 : Slot} {z2 : Slot} {z3 : Slot} {z4 : Slot} {z7 : Slot} {z8 : Slot} {z9 : Slot} {z10 : Slot} {z11 : Slot} {z12 : Slot} (x5 : Int32) (a0 : Addr) (v0 : List Int32) (X : Stand p l e R0 s m args below meth c T [] 1 5) (eT : T.heap = h) (Aa0 : own_AI Z h a0 .int v0) (ga0 : s.heap.size ≤ a0) (hz0 : One z0) (hz1 : One z1) (hz2 : One z2) (hz3 : One z3) (hz4 : One z4) (hz7 : One z7) (hz8 : One z8) (hz9 : One z9) (hz10 : One z10) (hz11 : One z11) (hz12 : One z12) (hs : s0_105 x5 v0) (hK : ∀ h', K (some (.int (f0_105 x5 v0))) h' []) : own_Go p e below (own_Q s K cc0 ss0) T (mkF m 105 #[z0, z1, z2, z3, z4, .val (.int x5), .val (.ref a0), z7, z8, z9, z10, z11, z12] []) := by
  obtain ⟨hx, hZ, hw, hby, hml, hown, hret, hlk, hnm⟩ := id C
  unfold f0_105 at hK
  unfold s0_105 at hs
  refine o_iload (pc' := 107) X hx (hb hby at_105) rfl rfl ?_
  refine o_iconst (pc' := 108) (x := (1 : Int32)) X hx (hb hby at_107) (by decide) rfl ?_
  refine o_icN (P := (1 : Int32) < x5) (pc1 := 120) (pc2 := 111) X hx XT.ii_le_f XT.ii_le_t (hb hby at_108) (by decide) (by decide) rfl (fun c48 => ?_) (fun c48 => ?_)
  · rw [if_neg c48] at hK
    refine o_iconst (pc' := 121) (x := (0 : Int32)) X hx (hb hby at_120) (by decide) rfl ?_
    exact b0_121 C x5 a0 v0 (0 : Int32) X eT Aa0 ga0 hz0 hz1 hz2 hz3 hz4 hz7 hz8 hz9 hz10 hz11 hz12 (hs.2 c48) hK
  · rw [if_pos c48] at hK
    refine o_aload (pc' := 113) X hx (hb hby at_111) rfl rfl rfl ?_
    refine o_iconst (pc' := 114) (x := (1 : Int32)) X hx (hb hby at_113) (by decide) rfl ?_
    refine o_callP (W := 0) (pc' := 117) (argsL := [(.ref a0), (.int (1 : Int32))]) (rest := []) (st' := [(.int (f5_0 v0 (1 : Int32)))]) X hx hZ eT hown (hw _ (List.mem_of_getElem? (i := 27) rfl)) (hw _ (List.mem_of_getElem? (i := 28) rfl)) (hw _ (List.mem_of_getElem? (i := 3) rfl)) (hw _ (List.mem_of_getElem? (i := 29) rfl)) (by decide) (rm5 l Z ag hw [] a0 v0 (1 : Int32) h Aa0 (hs.1 c48).1) (by decide) (by decide) (by rw [hml]; rfl) pd_5 rfl rfl rfl rfl (hb hby at_114) rfl rfl rfl (by decide) (by decide) rfl fun T68 X68 e68 => ?_
    refine o_goto (pc' := 121) X68 hx (hb hby at_117) (by decide) (by decide) ?_
    exact b0_121 C x5 a0 v0 (f5_0 v0 (1 : Int32)) X68 e68 Aa0 ga0 hz0 hz1 hz2 hz3 hz4 hz7 hz8 hz9 hz10 hz11 hz12 (hs.1 c48).2 hK

def f0_86 (x1 : Int32) (x2 : Int32) (x3 : Int32) (x4 : Int32) (x5 : Int32) (v0 : List Int32) : Int32 := (if (4 : Int32) < x5 then (f0_105 x5 (own_set v0 (4 : Int32) (f1_0 x1 (4 : Int32) x2 x3 x4))) else (f0_105 x5 v0))
def s0_86 (x1 : Int32) (x2 : Int32) (x3 : Int32) (x4 : Int32) (x5 : Int32) (v0 : List Int32) : Prop := (((4 : Int32) < x5 → (own_in v0.length (4 : Int32) ∧ s0_105 x5 (own_set v0 (4 : Int32) (f1_0 x1 (4 : Int32) x2 x3 x4)))) ∧ (¬ ((4 : Int32) < x5) → s0_105 x5 v0))
set_option maxRecDepth 65536 in
set_option maxHeartbeats 40000000 in
theorem b0_86 (C : own_Cx p s m meth c Z ag code maxLocals "com/example/bordertable/bordertable/BorderCoreNextPinLaw" ret "law") {T : State} {h : Heap} {z0 : Slot} {z7 : Slot} {z8 : Slot} {z9 : Slot} {z10 : Slot} {z11 : Slot} {z12 : Slot} (x1 : Int32) (x2 : Int32) (x3 : Int32) (x4 : Int32) (x5 : Int32) (a0 : Addr) (v0 : List Int32) (X : Stand p l e R0 s m args below meth c T [] 1 5) (eT : T.heap = h) (Aa0 : own_AI Z h a0 .int v0) (ga0 : s.heap.size ≤ a0) (hz0 : One z0) (hz7 : One z7) (hz8 : One z8) (hz9 : One z9) (hz10 : One z10) (hz11 : One z11) (hz12 : One z12) (hs : s0_86 x1 x2 x3 x4 x5 v0) (hK : ∀ h', K (some (.int (f0_86 x1 x2 x3 x4 x5 v0))) h' []) : own_Go p e below (own_Q s K cc0 ss0) T (mkF m 86 #[z0, .val (.int x1), .val (.int x2), .val (.int x3), .val (.int x4), .val (.int x5), .val (.ref a0), z7, z8, z9, z10, z11, z12] []) := by
  obtain ⟨hx, hZ, hw, hby, hml, hown, hret, hlk, hnm⟩ := id C
  unfold f0_86 at hK
  unfold s0_86 at hs
  refine o_iload (pc' := 88) X hx (hb hby at_86) rfl rfl ?_
  refine o_iconst (pc' := 89) (x := (4 : Int32)) X hx (hb hby at_88) (by decide) rfl ?_
  refine o_icN (P := (4 : Int32) < x5) (pc1 := 105) (pc2 := 92) X hx XT.ii_le_f XT.ii_le_t (hb hby at_89) (by decide) (by decide) rfl (fun c47 => ?_) (fun c47 => ?_)
  · rw [if_neg c47] at hK
    exact b0_105 C x5 a0 v0 X eT Aa0 ga0 hz0 (One.val rfl) (One.val rfl) (One.val rfl) (One.val rfl) hz7 hz8 hz9 hz10 hz11 hz12 (hs.2 c47) hK
  · rw [if_pos c47] at hK
    refine o_aload (pc' := 94) X hx (hb hby at_92) rfl rfl rfl ?_
    refine o_iconst (pc' := 95) (x := (4 : Int32)) X hx (hb hby at_94) (by decide) rfl ?_
    refine o_iloadN (pc' := 96) X hx (hb hby at_95) rfl rfl ?_
    refine o_iconst (pc' := 97) (x := (4 : Int32)) X hx (hb hby at_96) (by decide) rfl ?_
    refine o_iloadN (pc' := 98) X hx (hb hby at_97) rfl rfl ?_
    refine o_iloadN (pc' := 99) X hx (hb hby at_98) rfl rfl ?_
    refine o_iload (pc' := 101) X hx (hb hby at_99) rfl rfl ?_
    refine o_callP (W := 2) (pc' := 104) (argsL := [(.int x1), (.int (4 : Int32)), (.int x2), (.int x3), (.int x4)]) (rest := [(.int (4 : Int32)), (.ref a0)]) (st' := [(.int (f1_0 x1 (4 : Int32) x2 x3 x4)), (.int (4 : Int32)), (.ref a0)]) X hx hZ eT hown (hw _ (List.mem_of_getElem? (i := 1) rfl)) (hw _ (List.mem_of_getElem? (i := 2) rfl)) (hw _ (List.mem_of_getElem? (i := 3) rfl)) (hw _ (List.mem_of_getElem? (i := 4) rfl)) (by decide) (rm1 l Z ag hw [] x1 (4 : Int32) x2 x3 x4 h) (by decide) (by decide) (by rw [hml]; rfl) pd_2 rfl rfl rfl rfl (hb hby at_101) rfl rfl rfl (by decide) (by decide) rfl fun T69 X69 e69 => ?_
    refine o_iastore (pc' := 105) (vs' := (own_set v0 (4 : Int32) (f1_0 x1 (4 : Int32) x2 x3 x4))) X69 hx hZ e69 Aa0 (hs.1 c47).1 (hb hby at_104) rfl rfl fun T70 h70 X70 e70 W70 A70 => ?_
    have Y70 := own_drop X70 ga0
    exact b0_105 C x5 a0 (own_set v0 (4 : Int32) (f1_0 x1 (4 : Int32) x2 x3 x4)) Y70 e70 A70 ga0 hz0 (One.val rfl) (One.val rfl) (One.val rfl) (One.val rfl) hz7 hz8 hz9 hz10 hz11 hz12 (hs.1 c47).2 hK

def f0_67 (x1 : Int32) (x2 : Int32) (x3 : Int32) (x4 : Int32) (x5 : Int32) (v0 : List Int32) : Int32 := (if (3 : Int32) < x5 then (f0_86 x1 x2 x3 x4 x5 (own_set v0 (3 : Int32) (f1_0 x1 (3 : Int32) x2 x3 x4))) else (f0_86 x1 x2 x3 x4 x5 v0))
def s0_67 (x1 : Int32) (x2 : Int32) (x3 : Int32) (x4 : Int32) (x5 : Int32) (v0 : List Int32) : Prop := (((3 : Int32) < x5 → (own_in v0.length (3 : Int32) ∧ s0_86 x1 x2 x3 x4 x5 (own_set v0 (3 : Int32) (f1_0 x1 (3 : Int32) x2 x3 x4)))) ∧ (¬ ((3 : Int32) < x5) → s0_86 x1 x2 x3 x4 x5 v0))
set_option maxRecDepth 65536 in
set_option maxHeartbeats 40000000 in
theorem b0_67 (C : own_Cx p s m meth c Z ag code maxLocals "com/example/bordertable/bordertable/BorderCoreNextPinLaw" ret "law") {T : State} {h : Heap} {z0 : Slot} {z7 : Slot} {z8 : Slot} {z9 : Slot} {z10 : Slot} {z11 : Slot} {z12 : Slot} (x1 : Int32) (x2 : Int32) (x3 : Int32) (x4 : Int32) (x5 : Int32) (a0 : Addr) (v0 : List Int32) (X : Stand p l e R0 s m args below meth c T [] 1 5) (eT : T.heap = h) (Aa0 : own_AI Z h a0 .int v0) (ga0 : s.heap.size ≤ a0) (hz0 : One z0) (hz7 : One z7) (hz8 : One z8) (hz9 : One z9) (hz10 : One z10) (hz11 : One z11) (hz12 : One z12) (hs : s0_67 x1 x2 x3 x4 x5 v0) (hK : ∀ h', K (some (.int (f0_67 x1 x2 x3 x4 x5 v0))) h' []) : own_Go p e below (own_Q s K cc0 ss0) T (mkF m 67 #[z0, .val (.int x1), .val (.int x2), .val (.int x3), .val (.int x4), .val (.int x5), .val (.ref a0), z7, z8, z9, z10, z11, z12] []) := by
  obtain ⟨hx, hZ, hw, hby, hml, hown, hret, hlk, hnm⟩ := id C
  unfold f0_67 at hK
  unfold s0_67 at hs
  refine o_iload (pc' := 69) X hx (hb hby at_67) rfl rfl ?_
  refine o_iconst (pc' := 70) (x := (3 : Int32)) X hx (hb hby at_69) (by decide) rfl ?_
  refine o_icN (P := (3 : Int32) < x5) (pc1 := 86) (pc2 := 73) X hx XT.ii_le_f XT.ii_le_t (hb hby at_70) (by decide) (by decide) rfl (fun c46 => ?_) (fun c46 => ?_)
  · rw [if_neg c46] at hK
    exact b0_86 C x1 x2 x3 x4 x5 a0 v0 X eT Aa0 ga0 hz0 hz7 hz8 hz9 hz10 hz11 hz12 (hs.2 c46) hK
  · rw [if_pos c46] at hK
    refine o_aload (pc' := 75) X hx (hb hby at_73) rfl rfl rfl ?_
    refine o_iconst (pc' := 76) (x := (3 : Int32)) X hx (hb hby at_75) (by decide) rfl ?_
    refine o_iloadN (pc' := 77) X hx (hb hby at_76) rfl rfl ?_
    refine o_iconst (pc' := 78) (x := (3 : Int32)) X hx (hb hby at_77) (by decide) rfl ?_
    refine o_iloadN (pc' := 79) X hx (hb hby at_78) rfl rfl ?_
    refine o_iloadN (pc' := 80) X hx (hb hby at_79) rfl rfl ?_
    refine o_iload (pc' := 82) X hx (hb hby at_80) rfl rfl ?_
    refine o_callP (W := 2) (pc' := 85) (argsL := [(.int x1), (.int (3 : Int32)), (.int x2), (.int x3), (.int x4)]) (rest := [(.int (3 : Int32)), (.ref a0)]) (st' := [(.int (f1_0 x1 (3 : Int32) x2 x3 x4)), (.int (3 : Int32)), (.ref a0)]) X hx hZ eT hown (hw _ (List.mem_of_getElem? (i := 1) rfl)) (hw _ (List.mem_of_getElem? (i := 2) rfl)) (hw _ (List.mem_of_getElem? (i := 3) rfl)) (hw _ (List.mem_of_getElem? (i := 4) rfl)) (by decide) (rm1 l Z ag hw [] x1 (3 : Int32) x2 x3 x4 h) (by decide) (by decide) (by rw [hml]; rfl) pd_2 rfl rfl rfl rfl (hb hby at_82) rfl rfl rfl (by decide) (by decide) rfl fun T71 X71 e71 => ?_
    refine o_iastore (pc' := 86) (vs' := (own_set v0 (3 : Int32) (f1_0 x1 (3 : Int32) x2 x3 x4))) X71 hx hZ e71 Aa0 (hs.1 c46).1 (hb hby at_85) rfl rfl fun T72 h72 X72 e72 W72 A72 => ?_
    have Y72 := own_drop X72 ga0
    exact b0_86 C x1 x2 x3 x4 x5 a0 (own_set v0 (3 : Int32) (f1_0 x1 (3 : Int32) x2 x3 x4)) Y72 e72 A72 ga0 hz0 hz7 hz8 hz9 hz10 hz11 hz12 (hs.1 c46).2 hK

def f0_48 (x1 : Int32) (x2 : Int32) (x3 : Int32) (x4 : Int32) (x5 : Int32) (v0 : List Int32) : Int32 := (if (2 : Int32) < x5 then (f0_67 x1 x2 x3 x4 x5 (own_set v0 (2 : Int32) (f1_0 x1 (2 : Int32) x2 x3 x4))) else (f0_67 x1 x2 x3 x4 x5 v0))
def s0_48 (x1 : Int32) (x2 : Int32) (x3 : Int32) (x4 : Int32) (x5 : Int32) (v0 : List Int32) : Prop := (((2 : Int32) < x5 → (own_in v0.length (2 : Int32) ∧ s0_67 x1 x2 x3 x4 x5 (own_set v0 (2 : Int32) (f1_0 x1 (2 : Int32) x2 x3 x4)))) ∧ (¬ ((2 : Int32) < x5) → s0_67 x1 x2 x3 x4 x5 v0))
set_option maxRecDepth 65536 in
set_option maxHeartbeats 40000000 in
theorem b0_48 (C : own_Cx p s m meth c Z ag code maxLocals "com/example/bordertable/bordertable/BorderCoreNextPinLaw" ret "law") {T : State} {h : Heap} {z0 : Slot} {z7 : Slot} {z8 : Slot} {z9 : Slot} {z10 : Slot} {z11 : Slot} {z12 : Slot} (x1 : Int32) (x2 : Int32) (x3 : Int32) (x4 : Int32) (x5 : Int32) (a0 : Addr) (v0 : List Int32) (X : Stand p l e R0 s m args below meth c T [] 1 5) (eT : T.heap = h) (Aa0 : own_AI Z h a0 .int v0) (ga0 : s.heap.size ≤ a0) (hz0 : One z0) (hz7 : One z7) (hz8 : One z8) (hz9 : One z9) (hz10 : One z10) (hz11 : One z11) (hz12 : One z12) (hs : s0_48 x1 x2 x3 x4 x5 v0) (hK : ∀ h', K (some (.int (f0_48 x1 x2 x3 x4 x5 v0))) h' []) : own_Go p e below (own_Q s K cc0 ss0) T (mkF m 48 #[z0, .val (.int x1), .val (.int x2), .val (.int x3), .val (.int x4), .val (.int x5), .val (.ref a0), z7, z8, z9, z10, z11, z12] []) := by
  obtain ⟨hx, hZ, hw, hby, hml, hown, hret, hlk, hnm⟩ := id C
  unfold f0_48 at hK
  unfold s0_48 at hs
  refine o_iload (pc' := 50) X hx (hb hby at_48) rfl rfl ?_
  refine o_iconst (pc' := 51) (x := (2 : Int32)) X hx (hb hby at_50) (by decide) rfl ?_
  refine o_icN (P := (2 : Int32) < x5) (pc1 := 67) (pc2 := 54) X hx XT.ii_le_f XT.ii_le_t (hb hby at_51) (by decide) (by decide) rfl (fun c45 => ?_) (fun c45 => ?_)
  · rw [if_neg c45] at hK
    exact b0_67 C x1 x2 x3 x4 x5 a0 v0 X eT Aa0 ga0 hz0 hz7 hz8 hz9 hz10 hz11 hz12 (hs.2 c45) hK
  · rw [if_pos c45] at hK
    refine o_aload (pc' := 56) X hx (hb hby at_54) rfl rfl rfl ?_
    refine o_iconst (pc' := 57) (x := (2 : Int32)) X hx (hb hby at_56) (by decide) rfl ?_
    refine o_iloadN (pc' := 58) X hx (hb hby at_57) rfl rfl ?_
    refine o_iconst (pc' := 59) (x := (2 : Int32)) X hx (hb hby at_58) (by decide) rfl ?_
    refine o_iloadN (pc' := 60) X hx (hb hby at_59) rfl rfl ?_
    refine o_iloadN (pc' := 61) X hx (hb hby at_60) rfl rfl ?_
    refine o_iload (pc' := 63) X hx (hb hby at_61) rfl rfl ?_
    refine o_callP (W := 2) (pc' := 66) (argsL := [(.int x1), (.int (2 : Int32)), (.int x2), (.int x3), (.int x4)]) (rest := [(.int (2 : Int32)), (.ref a0)]) (st' := [(.int (f1_0 x1 (2 : Int32) x2 x3 x4)), (.int (2 : Int32)), (.ref a0)]) X hx hZ eT hown (hw _ (List.mem_of_getElem? (i := 1) rfl)) (hw _ (List.mem_of_getElem? (i := 2) rfl)) (hw _ (List.mem_of_getElem? (i := 3) rfl)) (hw _ (List.mem_of_getElem? (i := 4) rfl)) (by decide) (rm1 l Z ag hw [] x1 (2 : Int32) x2 x3 x4 h) (by decide) (by decide) (by rw [hml]; rfl) pd_2 rfl rfl rfl rfl (hb hby at_63) rfl rfl rfl (by decide) (by decide) rfl fun T73 X73 e73 => ?_
    refine o_iastore (pc' := 67) (vs' := (own_set v0 (2 : Int32) (f1_0 x1 (2 : Int32) x2 x3 x4))) X73 hx hZ e73 Aa0 (hs.1 c45).1 (hb hby at_66) rfl rfl fun T74 h74 X74 e74 W74 A74 => ?_
    have Y74 := own_drop X74 ga0
    exact b0_67 C x1 x2 x3 x4 x5 a0 (own_set v0 (2 : Int32) (f1_0 x1 (2 : Int32) x2 x3 x4)) Y74 e74 A74 ga0 hz0 hz7 hz8 hz9 hz10 hz11 hz12 (hs.1 c45).2 hK

def f0_0 (p0 : Int32) (p1 : Int32) (p2 : Int32) (p3 : Int32) (p4 : Int32) : Int32 := (if (1 : Int32) < ((1 : Int32) + (own_rem (p0 &&& (7 : Int32)) (5 : Int32))) then (f0_48 p1 p2 p3 p4 ((1 : Int32) + (own_rem (p0 &&& (7 : Int32)) (5 : Int32))) (own_set (own_set (List.replicate ((1 : Int32) + (own_rem (p0 &&& (7 : Int32)) (5 : Int32))).toNatClampNeg (0 : Int32)) (0 : Int32) (f1_0 p1 (0 : Int32) p2 p3 p4)) (1 : Int32) (f1_0 p1 (1 : Int32) p2 p3 p4))) else (f0_48 p1 p2 p3 p4 ((1 : Int32) + (own_rem (p0 &&& (7 : Int32)) (5 : Int32))) (own_set (List.replicate ((1 : Int32) + (own_rem (p0 &&& (7 : Int32)) (5 : Int32))).toNatClampNeg (0 : Int32)) (0 : Int32) (f1_0 p1 (0 : Int32) p2 p3 p4))))
def s0_0 (p0 : Int32) (p1 : Int32) (p2 : Int32) (p3 : Int32) (p4 : Int32) : Prop := (¬ (((1 : Int32) + (own_rem (p0 &&& (7 : Int32)) (5 : Int32))) < 0) ∧ ((1 : Int32) + (own_rem (p0 &&& (7 : Int32)) (5 : Int32))).toNatClampNeg ≤ 5 ∧ own_in (List.replicate ((1 : Int32) + (own_rem (p0 &&& (7 : Int32)) (5 : Int32))).toNatClampNeg (0 : Int32)).length (0 : Int32) ∧ (((1 : Int32) < ((1 : Int32) + (own_rem (p0 &&& (7 : Int32)) (5 : Int32))) → (own_in (own_set (List.replicate ((1 : Int32) + (own_rem (p0 &&& (7 : Int32)) (5 : Int32))).toNatClampNeg (0 : Int32)) (0 : Int32) (f1_0 p1 (0 : Int32) p2 p3 p4)).length (1 : Int32) ∧ s0_48 p1 p2 p3 p4 ((1 : Int32) + (own_rem (p0 &&& (7 : Int32)) (5 : Int32))) (own_set (own_set (List.replicate ((1 : Int32) + (own_rem (p0 &&& (7 : Int32)) (5 : Int32))).toNatClampNeg (0 : Int32)) (0 : Int32) (f1_0 p1 (0 : Int32) p2 p3 p4)) (1 : Int32) (f1_0 p1 (1 : Int32) p2 p3 p4)))) ∧ (¬ ((1 : Int32) < ((1 : Int32) + (own_rem (p0 &&& (7 : Int32)) (5 : Int32)))) → s0_48 p1 p2 p3 p4 ((1 : Int32) + (own_rem (p0 &&& (7 : Int32)) (5 : Int32))) (own_set (List.replicate ((1 : Int32) + (own_rem (p0 &&& (7 : Int32)) (5 : Int32))).toNatClampNeg (0 : Int32)) (0 : Int32) (f1_0 p1 (0 : Int32) p2 p3 p4)))))
set_option maxRecDepth 65536 in
set_option maxHeartbeats 40000000 in
theorem b0_0 (C : own_Cx p s m meth c Z ag code maxLocals "com/example/bordertable/bordertable/BorderCoreNextPinLaw" ret "law") {T : State} {h : Heap} (p0 : Int32) (p1 : Int32) (p2 : Int32) (p3 : Int32) (p4 : Int32) (X : Stand p l e R0 s m args below meth c T [] 0 0) (eT : T.heap = h) (hs : s0_0 p0 p1 p2 p3 p4) (hK : ∀ h', K (some (.int (f0_0 p0 p1 p2 p3 p4))) h' []) : own_Go p e below (own_Q s K cc0 ss0) T (mkF m 0 #[.val (.int p0), .val (.int p1), .val (.int p2), .val (.int p3), .val (.int p4), .unset, .unset, .unset, .unset, .unset, .unset, .unset, .unset] []) := by
  obtain ⟨hx, hZ, hw, hby, hml, hown, hret, hlk, hnm⟩ := id C
  unfold f0_0 at hK
  unfold s0_0 at hs
  refine o_iconst (pc' := 1) (x := (1 : Int32)) X hx (hb hby at_0) (by decide) rfl ?_
  refine o_iloadN (pc' := 2) X hx (hb hby at_1) rfl rfl ?_
  refine o_bipush (pc' := 4) (x := (7 : Int32)) X hx (hb hby at_2) (by decide) rfl ?_
  refine o_iand (pc' := 5)  X hx (hb hby at_4) rfl rfl ?_
  refine o_iconst (pc' := 6) (x := (5 : Int32)) X hx (hb hby at_5) (by decide) rfl ?_
  refine o_irem (pc' := 7)  X hx (hb hby at_6) rfl (by decide) rfl ?_
  refine o_iadd (pc' := 8)  X hx (hb hby at_7) rfl rfl ?_
  refine o_istore (pc' := 10) (l' := #[.val (.int p0), .val (.int p1), .val (.int p2), .val (.int p3), .val (.int p4), .val (.int ((1 : Int32) + (own_rem (p0 &&& (7 : Int32)) (5 : Int32)))), .unset, .unset, .unset, .unset, .unset, .unset, .unset]) X hx (hb hby at_8) rfl rfl ?_
  refine o_iload (pc' := 12) X hx (hb hby at_10) rfl rfl ?_
  refine o_newI (pc' := 14) (cap := 5) (vs := (List.replicate ((1 : Int32) + (own_rem (p0 &&& (7 : Int32)) (5 : Int32))).toNatClampNeg (0 : Int32))) X hx hZ eT (hw _ (List.mem_of_getElem? (i := 0) rfl)) rfl rfl (hb hby at_12) rfl hs.1 hs.2.1 (by decide) (by decide) (by decide) rfl fun T41 h41 b41 X41 e41 q41 E41 A41 => ?_
  have g41 : s.heap.size ≤ b41 := q41 ▸ own_sz X eT
  refine o_astore (pc' := 16) (l' := #[.val (.int p0), .val (.int p1), .val (.int p2), .val (.int p3), .val (.int p4), .val (.int ((1 : Int32) + (own_rem (p0 &&& (7 : Int32)) (5 : Int32)))), .val (.ref b41), .unset, .unset, .unset, .unset, .unset, .unset]) X41 hx (hb hby at_14) rfl rfl rfl ?_
  refine o_aload (pc' := 18) X41 hx (hb hby at_16) rfl rfl rfl ?_
  refine o_iconst (pc' := 19) (x := (0 : Int32)) X41 hx (hb hby at_18) (by decide) rfl ?_
  refine o_iloadN (pc' := 20) X41 hx (hb hby at_19) rfl rfl ?_
  refine o_iconst (pc' := 21) (x := (0 : Int32)) X41 hx (hb hby at_20) (by decide) rfl ?_
  refine o_iloadN (pc' := 22) X41 hx (hb hby at_21) rfl rfl ?_
  refine o_iloadN (pc' := 23) X41 hx (hb hby at_22) rfl rfl ?_
  refine o_iload (pc' := 25) X41 hx (hb hby at_23) rfl rfl ?_
  refine o_callP (W := 2) (pc' := 28) (argsL := [(.int p1), (.int (0 : Int32)), (.int p2), (.int p3), (.int p4)]) (rest := [(.int (0 : Int32)), (.ref b41)]) (st' := [(.int (f1_0 p1 (0 : Int32) p2 p3 p4)), (.int (0 : Int32)), (.ref b41)]) X41 hx hZ e41 hown (hw _ (List.mem_of_getElem? (i := 1) rfl)) (hw _ (List.mem_of_getElem? (i := 2) rfl)) (hw _ (List.mem_of_getElem? (i := 3) rfl)) (hw _ (List.mem_of_getElem? (i := 4) rfl)) (by decide) (rm1 l Z ag hw [] p1 (0 : Int32) p2 p3 p4 h41) (by decide) (by decide) (by rw [hml]; rfl) pd_2 rfl rfl rfl rfl (hb hby at_25) rfl rfl rfl (by decide) (by decide) rfl fun T42 X42 e42 => ?_
  refine o_iastore (pc' := 29) (vs' := (own_set (List.replicate ((1 : Int32) + (own_rem (p0 &&& (7 : Int32)) (5 : Int32))).toNatClampNeg (0 : Int32)) (0 : Int32) (f1_0 p1 (0 : Int32) p2 p3 p4))) X42 hx hZ e42 A41 hs.2.2.1 (hb hby at_28) rfl rfl fun T43 h43 X43 e43 W43 A43 => ?_
  have Y43 := own_drop X43 g41
  refine o_iload (pc' := 31) Y43 hx (hb hby at_29) rfl rfl ?_
  refine o_iconst (pc' := 32) (x := (1 : Int32)) Y43 hx (hb hby at_31) (by decide) rfl ?_
  refine o_icN (P := (1 : Int32) < ((1 : Int32) + (own_rem (p0 &&& (7 : Int32)) (5 : Int32)))) (pc1 := 48) (pc2 := 35) Y43 hx XT.ii_le_f XT.ii_le_t (hb hby at_32) (by decide) (by decide) rfl (fun c44 => ?_) (fun c44 => ?_)
  · rw [if_neg c44] at hK
    exact b0_48 C p1 p2 p3 p4 ((1 : Int32) + (own_rem (p0 &&& (7 : Int32)) (5 : Int32))) b41 (own_set (List.replicate ((1 : Int32) + (own_rem (p0 &&& (7 : Int32)) (5 : Int32))).toNatClampNeg (0 : Int32)) (0 : Int32) (f1_0 p1 (0 : Int32) p2 p3 p4)) Y43 e43 A43 g41 (One.val rfl) One.u One.u One.u One.u One.u One.u (hs.2.2.2.2 c44) hK
  · rw [if_pos c44] at hK
    refine o_aload (pc' := 37) Y43 hx (hb hby at_35) rfl rfl rfl ?_
    refine o_iconst (pc' := 38) (x := (1 : Int32)) Y43 hx (hb hby at_37) (by decide) rfl ?_
    refine o_iloadN (pc' := 39) Y43 hx (hb hby at_38) rfl rfl ?_
    refine o_iconst (pc' := 40) (x := (1 : Int32)) Y43 hx (hb hby at_39) (by decide) rfl ?_
    refine o_iloadN (pc' := 41) Y43 hx (hb hby at_40) rfl rfl ?_
    refine o_iloadN (pc' := 42) Y43 hx (hb hby at_41) rfl rfl ?_
    refine o_iload (pc' := 44) Y43 hx (hb hby at_42) rfl rfl ?_
    refine o_callP (W := 2) (pc' := 47) (argsL := [(.int p1), (.int (1 : Int32)), (.int p2), (.int p3), (.int p4)]) (rest := [(.int (1 : Int32)), (.ref b41)]) (st' := [(.int (f1_0 p1 (1 : Int32) p2 p3 p4)), (.int (1 : Int32)), (.ref b41)]) Y43 hx hZ e43 hown (hw _ (List.mem_of_getElem? (i := 1) rfl)) (hw _ (List.mem_of_getElem? (i := 2) rfl)) (hw _ (List.mem_of_getElem? (i := 3) rfl)) (hw _ (List.mem_of_getElem? (i := 4) rfl)) (by decide) (rm1 l Z ag hw [] p1 (1 : Int32) p2 p3 p4 h43) (by decide) (by decide) (by rw [hml]; rfl) pd_2 rfl rfl rfl rfl (hb hby at_44) rfl rfl rfl (by decide) (by decide) rfl fun T75 X75 e75 => ?_
    refine o_iastore (pc' := 48) (vs' := (own_set (own_set (List.replicate ((1 : Int32) + (own_rem (p0 &&& (7 : Int32)) (5 : Int32))).toNatClampNeg (0 : Int32)) (0 : Int32) (f1_0 p1 (0 : Int32) p2 p3 p4)) (1 : Int32) (f1_0 p1 (1 : Int32) p2 p3 p4))) X75 hx hZ e75 A43 (hs.2.2.2.1 c44).1 (hb hby at_47) rfl rfl fun T76 h76 X76 e76 W76 A76 => ?_
    have Y76 := own_drop X76 g41
    exact b0_48 C p1 p2 p3 p4 ((1 : Int32) + (own_rem (p0 &&& (7 : Int32)) (5 : Int32))) b41 (own_set (own_set (List.replicate ((1 : Int32) + (own_rem (p0 &&& (7 : Int32)) (5 : Int32))).toNatClampNeg (0 : Int32)) (0 : Int32) (f1_0 p1 (0 : Int32) p2 p3 p4)) (1 : Int32) (f1_0 p1 (1 : Int32) p2 p3 p4)) Y76 e76 A76 g41 (One.val rfl) One.u One.u One.u One.u One.u One.u (hs.2.2.2.1 c44).2 hK

end Body0
theorem ef_0 (m : MethodId) (p0 : Int32) (p1 : Int32) (p2 : Int32) (p3 : Int32) (p4 : Int32) : entryFrame m #[(.int p0), (.int p1), (.int p2), (.int p3), (.int p4)] maxLocals = mkF m 0 #[.val (.int p0), .val (.int p1), .val (.int p2), .val (.int p3), .val (.int p4), .unset, .unset, .unset, .unset, .unset, .unset, .unset, .unset] [] := by first | (simp [entryFrame, mkF, argsToLocals, Value.category, maxLocals]; done) | rfl
set_option maxRecDepth 65536 in
set_option maxHeartbeats 40000000 in
theorem rm0 (l : Launch) (Z : State) (ag : Array Value) (hw : ∀ d ∈ tables_1, d.before ag Z = true) (ws : List Jvm.Cond) (p0 : Int32) (p1 : Int32) (p2 : Int32) (p3 : Int32) (p4 : Int32) (h0 : Heap) (hs : s0_0 p0 p1 p2 p3 p4) :
    MetFree l x (head1 (Jvm.Cond.code x code maxLocals ret :: ws) R0) (fun a U => a = #[(.int p0), (.int p1), (.int p2), (.int p3), (.int p4)] ∧ Z.Warmed39 U.vm ∧ U.heap = h0) (fun _ _ _ _ _ => True) (fun _ U o U' => ∃ v L, o = .returned v ∧ own_KL (some (.int (f0_0 p0 p1 p2 p3 p4))) v U'.heap L ∧ FrameEnd U o U' L cc0 ss0) := by
  refine MetFree.of_bodySF (plainFor_of_name pn_BorderCoreNextPinLaw) hisR ?_
  intro p e s m args below meth c s₁ Bd hml0 hP hK
  obtain ⟨rfl, hZ, hh⟩ := hP
  have C : own_Cx p s m meth c Z ag code maxLocals "com/example/bordertable/bordertable/BorderCoreNextPinLaw" ret "law" := ⟨Bd.exec, hZ, hw, Bd.bytes, hml0, findClass_of_methodNamed Bd.named, Bd.returns, Bd.notSynchronized, (name_of_methodNamed Bd.named Bd.method).1⟩
  have X0 : Stand p l e R0 s m #[(.int p0), (.int p1), (.int p2), (.int p3), (.int p4)] below meth c s₁ [] 0 0 := Stand.of_body Bd
  have e0 : s₁.heap = h0 := by rw [← hh, Bd.state]; rfl
  rw [ef_0]
  exact b0_0 (K := own_KL (some (.int (f0_0 p0 p1 p2 p3 p4)))) C p0 p1 p2 p3 p4 X0 e0 hs (fun _ => ⟨rfl, rfl⟩)

theorem own_getM {g : Int32 → Int32} (h0 : g 0 = 0) (v : List Int32) (j : Int32) : own_get (v.map g) j = g (own_get v j) := by
  unfold own_get
  rw [List.getD_eq_getElem?_getD, List.getD_eq_getElem?_getD, List.getElem?_map]
  cases v[j.toNatClampNeg]? with
  | none => exact h0.symm
  | some x => rfl
def own_swap (x y z : Int32) : Int32 := if z = x then y else if z = y then x else z
theorem own_swap_inj (x y : Int32) {a b : Int32} : own_swap x y a = own_swap x y b ↔ a = b := by
  constructor
  · intro h
    have two : ∀ z, own_swap x y (own_swap x y z) = z := by
      intro z
      unfold own_swap
      by_cases c1 : z = x
      · rw [if_pos c1]
        by_cases c3 : y = x
        · rw [if_pos c3, c1, c3]
        · rw [if_neg c3, if_pos rfl, c1]
      · rw [if_neg c1]
        by_cases c2 : z = y
        · rw [if_pos c2, if_pos rfl, c2]
        · rw [if_neg c2, if_neg c1, if_neg c2]
    rw [← two a, ← two b, h]
  · intro h; rw [h]
theorem own_swap_off {x y z : Int32} (h1 : ¬ z = x) (h2 : ¬ z = y) : own_swap x y z = z := by unfold own_swap; rw [if_neg h1, if_neg h2]
def own_allB (q : List Int32 → Bool) : Nat → Nat → List Int32 → Bool
  | 0, _, pre => q pre
  | k + 1, M, pre => (List.range (M + 1)).all (fun i => own_allB q k M (pre ++ [Int32.ofNat i])) && own_allB q k (M + 1) (pre ++ [Int32.ofNat (M + 1)])
theorem own_canon {q : List Int32 → Bool} (inv : ∀ (g : Int32 → Int32), g 0 = 0 → (∀ a b, g a = g b ↔ a = b) → ∀ l, q (l.map g) = true → q l = true) :
    ∀ (k M : Nat) (pre : List Int32), M + k < 1000 → own_allB q k M pre = true → (∀ x ∈ pre, ∃ i, i ≤ M ∧ x = Int32.ofNat i) → ∀ r : List Int32, r.length = k → q (pre ++ r) = true := by
  intro k
  induction k with
  | zero =>
    intro M pre _ h _ r hr
    rw [List.length_eq_zero_iff.mp hr, List.append_nil]; exact h
  | succ k ih =>
    intro M pre hM h hp r hr
    match r, hr with
    | x :: r, hr =>
      have hr' : r.length = k := by simpa using hr
      unfold own_allB at h
      rw [Bool.and_eq_true] at h
      by_cases c : ∃ i, i ≤ M ∧ x = Int32.ofNat i
      · obtain ⟨i, hi, rfl⟩ := c
        have h1 := List.all_eq_true.mp h.1 i (List.mem_range.mpr (by omega))
        have := ih M (pre ++ [Int32.ofNat i]) (by omega) h1 (fun y hy => by
          rcases List.mem_append.mp hy with hy | hy
          · exact hp y hy
          · exact ⟨i, hi, List.mem_singleton.mp hy⟩) r hr'
        rw [List.append_assoc] at this
        exact this
      · have ne : ∀ i, i ≤ M → own_swap x (Int32.ofNat (M + 1)) (Int32.ofNat i) = Int32.ofNat i := by
          intro i hi
          refine own_swap_off (fun e => c ⟨i, hi, e.symm⟩) (fun e => ?_)
          have e' := own_eq.mp e
          rw [own_nat_toInt (by omega), own_nat_toInt (by omega)] at e'
          omega
        refine inv (own_swap x (Int32.ofNat (M + 1))) (ne 0 (by omega)) (fun a b => own_swap_inj _ _) _ ?_
        have e1 : pre.map (own_swap x (Int32.ofNat (M + 1))) = pre := by
          have : pre.map (own_swap x (Int32.ofNat (M + 1))) = pre.map id := List.map_congr_left (fun y hy => by
            obtain ⟨i, hi, rfl⟩ := hp y hy
            exact ne i hi)
          rw [this, List.map_id]
        rw [List.map_append, e1, List.map_cons, show own_swap x (Int32.ofNat (M + 1)) x = Int32.ofNat (M + 1) from by unfold own_swap; rw [if_pos rfl]]
        have := ih (M + 1) (pre ++ [Int32.ofNat (M + 1)]) (by omega) h.2 (fun y hy => by
          rcases List.mem_append.mp hy with hy | hy
          · obtain ⟨i, hi, e⟩ := hp y hy; exact ⟨i, by omega, e⟩
          · exact ⟨M + 1, Nat.le_refl _, List.mem_singleton.mp hy⟩) (r.map (own_swap x (Int32.ofNat (M + 1)))) (by rw [List.length_map]; exact hr')
        rw [List.append_assoc] at this
        exact this
theorem own_m28 {g : Int32 → Int32} (h0 : g 0 = 0) (hi : ∀ a b, g a = g b ↔ a = b) (v1 v2 : List Int32) (x2 x3 : Int32) : f7_28 v1 (v2.map g) (g x2) x3 = f7_28 v1 v2 x2 x3 := by
  unfold f7_28; simp only [own_getM h0, hi]
theorem own_m2 {g : Int32 → Int32} (h0 : g 0 = 0) (hi : ∀ a b, g a = g b ↔ a = b) (v1 v2 : List Int32) (x2 : Int32) : ∀ (n : Nat) (x3 : Int32), f7_2 n v1 (v2.map g) (g x2) x3 = f7_2 n v1 v2 x2 x3 := by
  intro n
  induction n with
  | zero => intro _; rfl
  | succ n ih => intro x3; simp only [f7_2, own_getM h0, hi, own_m28 h0 hi, ih]
theorem own_ms2 {g : Int32 → Int32} (h0 : g 0 = 0) (hi : ∀ a b, g a = g b ↔ a = b) (v1 v2 : List Int32) (x2 : Int32) : ∀ (n : Nat) (x3 : Int32), s7_2 n v1 (v2.map g) (g x2) x3 ↔ s7_2 n v1 v2 x2 x3 := by
  intro n
  induction n with
  | zero => intro _; exact Iff.rfl
  | succ n ih => intro x3; simp only [s7_2, s7_28, own_getM h0, hi, List.length_map, ih]
theorem own_m0 {g : Int32 → Int32} (h0 : g 0 = 0) (hi : ∀ a b, g a = g b ↔ a = b) (v1 v2 : List Int32) (x2 x3 : Int32) : f7_0 v1 (v2.map g) x3 (g x2) = f7_0 v1 v2 x3 x2 := own_m2 h0 hi v1 v2 x2 8 x3
theorem own_ms0 {g : Int32 → Int32} (h0 : g 0 = 0) (hi : ∀ a b, g a = g b ↔ a = b) (v1 v2 : List Int32) (x2 x3 : Int32) : s7_0 v1 (v2.map g) x3 (g x2) ↔ s7_0 v1 v2 x3 x2 := own_ms2 h0 hi v1 v2 x2 8 x3
theorem own_m34 {g : Int32 → Int32} (h0 : g 0 = 0) (hi : ∀ a b, g a = g b ↔ a = b) (v2 : List Int32) : ∀ (n : Nat) (v1 : List Int32) (x : Int32), f2_34 n v1 (v2.map g) x = f2_34 n v1 v2 x := by
  intro n
  induction n with
  | zero => intro _ _; rfl
  | succ n ih => intro v1 x; simp only [f2_34, own_getM h0, own_m0 h0 hi, List.length_map, ih]
theorem own_ms34 {g : Int32 → Int32} (h0 : g 0 = 0) (hi : ∀ a b, g a = g b ↔ a = b) (v2 : List Int32) : ∀ (n : Nat) (v1 : List Int32) (x : Int32), s2_34 n v1 (v2.map g) x ↔ s2_34 n v1 v2 x := by
  intro n
  induction n with
  | zero => intro _ _; exact Iff.rfl
  | succ n ih => intro v1 x; simp only [s2_34, own_getM h0, own_m0 h0 hi, own_ms0 h0 hi, List.length_map, ih]
theorem own_mb {g : Int32 → Int32} (h0 : g 0 = 0) (hi : ∀ a b, g a = g b ↔ a = b) (v : List Int32) : f2_0 (v.map g) = f2_0 v := by unfold f2_0; simp only [own_m34 h0 hi, List.length_map]
theorem own_msb {g : Int32 → Int32} (h0 : g 0 = 0) (hi : ∀ a b, g a = g b ↔ a = b) (v : List Int32) : s2_0 (v.map g) ↔ s2_0 v := by unfold s2_0; simp only [own_ms34 h0 hi, List.length_map]
def own_dA {p q : Prop} (_ : Decidable p) (_ : Decidable q) : Decidable (p ∧ q) := inferInstance
def own_dI {p q : Prop} (_ : Decidable p) (_ : Decidable q) : Decidable (p → q) := inferInstance
instance own_din (n : Nat) (j : Int32) : Decidable (own_in n j) := inferInstanceAs (Decidable (_ ∧ _))
instance own_d2 : ∀ (n : Nat) (v1 v2 : List Int32) (x2 x3 : Int32), Decidable (s7_2 n v1 v2 x2 x3)
  | 0, _, _, _, _ => isFalse (fun h => h)
  | n + 1, v1, v2, x2, x3 => by
    have := own_d2 n v1 v2 x2
    unfold s7_2 s7_28
    infer_instance
instance own_d0 (v1 v2 : List Int32) (x2 x3 : Int32) : Decidable (s7_0 v1 v2 x3 x2) := own_d2 8 v1 v2 x2 x3
instance own_d34 : ∀ (n : Nat) (v1 v2 : List Int32) (x : Int32), Decidable (s2_34 n v1 v2 x)
  | 0, _, _, _ => isFalse (fun h => h)
  | n + 1, v1, v2, x => by
    have := fun w => own_d34 n w v2
    unfold s2_34
    infer_instance
instance own_db (v : List Int32) : Decidable (s2_0 v) := by unfold s2_0; infer_instance
theorem own_mf4 {g : Int32 → Int32} (h0 : g 0 = 0) (hi : ∀ a b, g a = g b ↔ a = b) (b v : List Int32) : f4_0 b (v.map g) = f4_0 b v := by unfold f4_0; rw [List.length_map]
theorem own_msf4 {g : Int32 → Int32} (h0 : g 0 = 0) (hi : ∀ a b, g a = g b ↔ a = b) (b v : List Int32) : s4_0 b (v.map g) ↔ s4_0 b v := by unfold s4_0; rw [List.length_map]
theorem own_zf6_36 {g : Int32 → Int32} (h0 : g 0 = 0) (hi : ∀ a b, g a = g b ↔ a = b) (v0 : List Int32) (x1 : Int32) (x2 : Int32) (x3 : Int32) : f6_36 (v0.map g) x1 x2 x3 = f6_36 v0 x1 x2 x3 := by
  unfold f6_36
  first | simp only [own_getM h0, hi, List.length_map, own_mb h0 hi, own_msb h0 hi, own_mf4 h0 hi, own_msf4 h0 hi] | rfl
theorem own_zs6_36 {g : Int32 → Int32} (h0 : g 0 = 0) (hi : ∀ a b, g a = g b ↔ a = b) (v0 : List Int32) (x1 : Int32) (x2 : Int32) (x3 : Int32) : s6_36 (v0.map g) x1 x2 x3 ↔ s6_36 v0 x1 x2 x3 := by
  unfold s6_36
  first | simp only [own_getM h0, hi, List.length_map, own_mb h0 hi, own_msb h0 hi, own_mf4 h0 hi, own_msf4 h0 hi, own_zf6_36 h0 hi] | rfl
theorem own_zf6_16 {g : Int32 → Int32} (h0 : g 0 = 0) (hi : ∀ a b, g a = g b ↔ a = b) (v0 : List Int32) (x1 : Int32) (x2 : Int32) (x3 : Int32) : f6_16 (v0.map g) x1 x2 x3 = f6_16 v0 x1 x2 x3 := by
  unfold f6_16
  first | simp only [own_getM h0, hi, List.length_map, own_mb h0 hi, own_msb h0 hi, own_mf4 h0 hi, own_msf4 h0 hi, own_zf6_36 h0 hi, own_zs6_36 h0 hi] | rfl
theorem own_zs6_16 {g : Int32 → Int32} (h0 : g 0 = 0) (hi : ∀ a b, g a = g b ↔ a = b) (v0 : List Int32) (x1 : Int32) (x2 : Int32) (x3 : Int32) : s6_16 (v0.map g) x1 x2 x3 ↔ s6_16 v0 x1 x2 x3 := by
  unfold s6_16
  first | simp only [own_getM h0, hi, List.length_map, own_mb h0 hi, own_msb h0 hi, own_mf4 h0 hi, own_msf4 h0 hi, own_zf6_36 h0 hi, own_zs6_36 h0 hi, own_zf6_16 h0 hi] | rfl
theorem own_zf6_0 {g : Int32 → Int32} (h0 : g 0 = 0) (hi : ∀ a b, g a = g b ↔ a = b) (v0 : List Int32) (p1 : Int32) (p2 : Int32) (p3 : Int32) : f6_0 (v0.map g) p1 p2 p3 = f6_0 v0 p1 p2 p3 := by
  unfold f6_0
  first | simp only [own_getM h0, hi, List.length_map, own_mb h0 hi, own_msb h0 hi, own_mf4 h0 hi, own_msf4 h0 hi, own_zf6_36 h0 hi, own_zs6_36 h0 hi, own_zf6_16 h0 hi, own_zs6_16 h0 hi] | rfl
theorem own_zs6_0 {g : Int32 → Int32} (h0 : g 0 = 0) (hi : ∀ a b, g a = g b ↔ a = b) (v0 : List Int32) (p1 : Int32) (p2 : Int32) (p3 : Int32) : s6_0 (v0.map g) p1 p2 p3 ↔ s6_0 v0 p1 p2 p3 := by
  unfold s6_0
  first | simp only [own_getM h0, hi, List.length_map, own_mb h0 hi, own_msb h0 hi, own_mf4 h0 hi, own_msf4 h0 hi, own_zf6_36 h0 hi, own_zs6_36 h0 hi, own_zf6_16 h0 hi, own_zs6_16 h0 hi, own_zf6_0 h0 hi] | rfl
theorem own_zf5_42 {g : Int32 → Int32} (h0 : g 0 = 0) (hi : ∀ a b, g a = g b ↔ a = b) (v0 : List Int32) (x1 : Int32) : f5_42 (v0.map g) x1 = f5_42 v0 x1 := by
  unfold f5_42
  first | simp only [own_getM h0, hi, List.length_map, own_mb h0 hi, own_msb h0 hi, own_mf4 h0 hi, own_msf4 h0 hi, own_zf6_36 h0 hi, own_zs6_36 h0 hi, own_zf6_16 h0 hi, own_zs6_16 h0 hi, own_zf6_0 h0 hi, own_zs6_0 h0 hi] | rfl
theorem own_zs5_42 {g : Int32 → Int32} (h0 : g 0 = 0) (hi : ∀ a b, g a = g b ↔ a = b) (v0 : List Int32) (x1 : Int32) : s5_42 (v0.map g) x1 ↔ s5_42 v0 x1 := by
  unfold s5_42
  first | simp only [own_getM h0, hi, List.length_map, own_mb h0 hi, own_msb h0 hi, own_mf4 h0 hi, own_msf4 h0 hi, own_zf6_36 h0 hi, own_zs6_36 h0 hi, own_zf6_16 h0 hi, own_zs6_16 h0 hi, own_zf6_0 h0 hi, own_zs6_0 h0 hi, own_zf5_42 h0 hi] | rfl
theorem own_zf5_21 {g : Int32 → Int32} (h0 : g 0 = 0) (hi : ∀ a b, g a = g b ↔ a = b) (v0 : List Int32) (x1 : Int32) : f5_21 (v0.map g) x1 = f5_21 v0 x1 := by
  unfold f5_21
  first | simp only [own_getM h0, hi, List.length_map, own_mb h0 hi, own_msb h0 hi, own_mf4 h0 hi, own_msf4 h0 hi, own_zf6_36 h0 hi, own_zs6_36 h0 hi, own_zf6_16 h0 hi, own_zs6_16 h0 hi, own_zf6_0 h0 hi, own_zs6_0 h0 hi, own_zf5_42 h0 hi, own_zs5_42 h0 hi] | rfl
theorem own_zs5_21 {g : Int32 → Int32} (h0 : g 0 = 0) (hi : ∀ a b, g a = g b ↔ a = b) (v0 : List Int32) (x1 : Int32) : s5_21 (v0.map g) x1 ↔ s5_21 v0 x1 := by
  unfold s5_21
  first | simp only [own_getM h0, hi, List.length_map, own_mb h0 hi, own_msb h0 hi, own_mf4 h0 hi, own_msf4 h0 hi, own_zf6_36 h0 hi, own_zs6_36 h0 hi, own_zf6_16 h0 hi, own_zs6_16 h0 hi, own_zf6_0 h0 hi, own_zs6_0 h0 hi, own_zf5_42 h0 hi, own_zs5_42 h0 hi, own_zf5_21 h0 hi] | rfl
theorem own_zf5_0 {g : Int32 → Int32} (h0 : g 0 = 0) (hi : ∀ a b, g a = g b ↔ a = b) (v0 : List Int32) (p1 : Int32) : f5_0 (v0.map g) p1 = f5_0 v0 p1 := by
  unfold f5_0
  first | simp only [own_getM h0, hi, List.length_map, own_mb h0 hi, own_msb h0 hi, own_mf4 h0 hi, own_msf4 h0 hi, own_zf6_36 h0 hi, own_zs6_36 h0 hi, own_zf6_16 h0 hi, own_zs6_16 h0 hi, own_zf6_0 h0 hi, own_zs6_0 h0 hi, own_zf5_42 h0 hi, own_zs5_42 h0 hi, own_zf5_21 h0 hi, own_zs5_21 h0 hi] | rfl
theorem own_zs5_0 {g : Int32 → Int32} (h0 : g 0 = 0) (hi : ∀ a b, g a = g b ↔ a = b) (v0 : List Int32) (p1 : Int32) : s5_0 (v0.map g) p1 ↔ s5_0 v0 p1 := by
  unfold s5_0
  first | simp only [own_getM h0, hi, List.length_map, own_mb h0 hi, own_msb h0 hi, own_mf4 h0 hi, own_msf4 h0 hi, own_zf6_36 h0 hi, own_zs6_36 h0 hi, own_zf6_16 h0 hi, own_zs6_16 h0 hi, own_zf6_0 h0 hi, own_zs6_0 h0 hi, own_zf5_42 h0 hi, own_zs5_42 h0 hi, own_zf5_21 h0 hi, own_zs5_21 h0 hi, own_zf5_0 h0 hi] | rfl
theorem own_zf0_175 {g : Int32 → Int32} (h0 : g 0 = 0) (hi : ∀ a b, g a = g b ↔ a = b) (x5 : Int32) (v0 : List Int32) (x7 : Int32) (x8 : Int32) (x9 : Int32) (t0 : Int32) : f0_175 x5 (v0.map g) x7 x8 x9 t0 = f0_175 x5 v0 x7 x8 x9 t0 := by
  unfold f0_175
  first | simp only [own_getM h0, hi, List.length_map, own_mb h0 hi, own_msb h0 hi, own_mf4 h0 hi, own_msf4 h0 hi, own_zf6_36 h0 hi, own_zs6_36 h0 hi, own_zf6_16 h0 hi, own_zs6_16 h0 hi, own_zf6_0 h0 hi, own_zs6_0 h0 hi, own_zf5_42 h0 hi, own_zs5_42 h0 hi, own_zf5_21 h0 hi, own_zs5_21 h0 hi, own_zf5_0 h0 hi, own_zs5_0 h0 hi] | rfl
theorem own_zs0_175 {g : Int32 → Int32} (h0 : g 0 = 0) (hi : ∀ a b, g a = g b ↔ a = b) (x5 : Int32) (v0 : List Int32) (x7 : Int32) (x8 : Int32) (x9 : Int32) (t0 : Int32) : s0_175 x5 (v0.map g) x7 x8 x9 t0 ↔ s0_175 x5 v0 x7 x8 x9 t0 := by
  unfold s0_175
  first | simp only [own_getM h0, hi, List.length_map, own_mb h0 hi, own_msb h0 hi, own_mf4 h0 hi, own_msf4 h0 hi, own_zf6_36 h0 hi, own_zs6_36 h0 hi, own_zf6_16 h0 hi, own_zs6_16 h0 hi, own_zf6_0 h0 hi, own_zs6_0 h0 hi, own_zf5_42 h0 hi, own_zs5_42 h0 hi, own_zf5_21 h0 hi, own_zs5_21 h0 hi, own_zf5_0 h0 hi, own_zs5_0 h0 hi, own_zf0_175 h0 hi] | rfl
theorem own_zf0_157 {g : Int32 → Int32} (h0 : g 0 = 0) (hi : ∀ a b, g a = g b ↔ a = b) (x5 : Int32) (v0 : List Int32) (x7 : Int32) (x8 : Int32) (t0 : Int32) : f0_157 x5 (v0.map g) x7 x8 t0 = f0_157 x5 v0 x7 x8 t0 := by
  unfold f0_157
  first | simp only [own_getM h0, hi, List.length_map, own_mb h0 hi, own_msb h0 hi, own_mf4 h0 hi, own_msf4 h0 hi, own_zf6_36 h0 hi, own_zs6_36 h0 hi, own_zf6_16 h0 hi, own_zs6_16 h0 hi, own_zf6_0 h0 hi, own_zs6_0 h0 hi, own_zf5_42 h0 hi, own_zs5_42 h0 hi, own_zf5_21 h0 hi, own_zs5_21 h0 hi, own_zf5_0 h0 hi, own_zs5_0 h0 hi, own_zf0_175 h0 hi, own_zs0_175 h0 hi] | rfl
theorem own_zs0_157 {g : Int32 → Int32} (h0 : g 0 = 0) (hi : ∀ a b, g a = g b ↔ a = b) (x5 : Int32) (v0 : List Int32) (x7 : Int32) (x8 : Int32) (t0 : Int32) : s0_157 x5 (v0.map g) x7 x8 t0 ↔ s0_157 x5 v0 x7 x8 t0 := by
  unfold s0_157
  first | simp only [own_getM h0, hi, List.length_map, own_mb h0 hi, own_msb h0 hi, own_mf4 h0 hi, own_msf4 h0 hi, own_zf6_36 h0 hi, own_zs6_36 h0 hi, own_zf6_16 h0 hi, own_zs6_16 h0 hi, own_zf6_0 h0 hi, own_zs6_0 h0 hi, own_zf5_42 h0 hi, own_zs5_42 h0 hi, own_zf5_21 h0 hi, own_zs5_21 h0 hi, own_zf5_0 h0 hi, own_zs5_0 h0 hi, own_zf0_175 h0 hi, own_zs0_175 h0 hi, own_zf0_157 h0 hi] | rfl
theorem own_zf0_139 {g : Int32 → Int32} (h0 : g 0 = 0) (hi : ∀ a b, g a = g b ↔ a = b) (x5 : Int32) (v0 : List Int32) (x7 : Int32) (t0 : Int32) : f0_139 x5 (v0.map g) x7 t0 = f0_139 x5 v0 x7 t0 := by
  unfold f0_139
  first | simp only [own_getM h0, hi, List.length_map, own_mb h0 hi, own_msb h0 hi, own_mf4 h0 hi, own_msf4 h0 hi, own_zf6_36 h0 hi, own_zs6_36 h0 hi, own_zf6_16 h0 hi, own_zs6_16 h0 hi, own_zf6_0 h0 hi, own_zs6_0 h0 hi, own_zf5_42 h0 hi, own_zs5_42 h0 hi, own_zf5_21 h0 hi, own_zs5_21 h0 hi, own_zf5_0 h0 hi, own_zs5_0 h0 hi, own_zf0_175 h0 hi, own_zs0_175 h0 hi, own_zf0_157 h0 hi, own_zs0_157 h0 hi] | rfl
theorem own_zs0_139 {g : Int32 → Int32} (h0 : g 0 = 0) (hi : ∀ a b, g a = g b ↔ a = b) (x5 : Int32) (v0 : List Int32) (x7 : Int32) (t0 : Int32) : s0_139 x5 (v0.map g) x7 t0 ↔ s0_139 x5 v0 x7 t0 := by
  unfold s0_139
  first | simp only [own_getM h0, hi, List.length_map, own_mb h0 hi, own_msb h0 hi, own_mf4 h0 hi, own_msf4 h0 hi, own_zf6_36 h0 hi, own_zs6_36 h0 hi, own_zf6_16 h0 hi, own_zs6_16 h0 hi, own_zf6_0 h0 hi, own_zs6_0 h0 hi, own_zf5_42 h0 hi, own_zs5_42 h0 hi, own_zf5_21 h0 hi, own_zs5_21 h0 hi, own_zf5_0 h0 hi, own_zs5_0 h0 hi, own_zf0_175 h0 hi, own_zs0_175 h0 hi, own_zf0_157 h0 hi, own_zs0_157 h0 hi, own_zf0_139 h0 hi] | rfl
theorem own_zf0_121 {g : Int32 → Int32} (h0 : g 0 = 0) (hi : ∀ a b, g a = g b ↔ a = b) (x5 : Int32) (v0 : List Int32) (t0 : Int32) : f0_121 x5 (v0.map g) t0 = f0_121 x5 v0 t0 := by
  unfold f0_121
  first | simp only [own_getM h0, hi, List.length_map, own_mb h0 hi, own_msb h0 hi, own_mf4 h0 hi, own_msf4 h0 hi, own_zf6_36 h0 hi, own_zs6_36 h0 hi, own_zf6_16 h0 hi, own_zs6_16 h0 hi, own_zf6_0 h0 hi, own_zs6_0 h0 hi, own_zf5_42 h0 hi, own_zs5_42 h0 hi, own_zf5_21 h0 hi, own_zs5_21 h0 hi, own_zf5_0 h0 hi, own_zs5_0 h0 hi, own_zf0_175 h0 hi, own_zs0_175 h0 hi, own_zf0_157 h0 hi, own_zs0_157 h0 hi, own_zf0_139 h0 hi, own_zs0_139 h0 hi] | rfl
theorem own_zs0_121 {g : Int32 → Int32} (h0 : g 0 = 0) (hi : ∀ a b, g a = g b ↔ a = b) (x5 : Int32) (v0 : List Int32) (t0 : Int32) : s0_121 x5 (v0.map g) t0 ↔ s0_121 x5 v0 t0 := by
  unfold s0_121
  first | simp only [own_getM h0, hi, List.length_map, own_mb h0 hi, own_msb h0 hi, own_mf4 h0 hi, own_msf4 h0 hi, own_zf6_36 h0 hi, own_zs6_36 h0 hi, own_zf6_16 h0 hi, own_zs6_16 h0 hi, own_zf6_0 h0 hi, own_zs6_0 h0 hi, own_zf5_42 h0 hi, own_zs5_42 h0 hi, own_zf5_21 h0 hi, own_zs5_21 h0 hi, own_zf5_0 h0 hi, own_zs5_0 h0 hi, own_zf0_175 h0 hi, own_zs0_175 h0 hi, own_zf0_157 h0 hi, own_zs0_157 h0 hi, own_zf0_139 h0 hi, own_zs0_139 h0 hi, own_zf0_121 h0 hi] | rfl
theorem own_zf0_105 {g : Int32 → Int32} (h0 : g 0 = 0) (hi : ∀ a b, g a = g b ↔ a = b) (x5 : Int32) (v0 : List Int32) : f0_105 x5 (v0.map g) = f0_105 x5 v0 := by
  unfold f0_105
  first | simp only [own_getM h0, hi, List.length_map, own_mb h0 hi, own_msb h0 hi, own_mf4 h0 hi, own_msf4 h0 hi, own_zf6_36 h0 hi, own_zs6_36 h0 hi, own_zf6_16 h0 hi, own_zs6_16 h0 hi, own_zf6_0 h0 hi, own_zs6_0 h0 hi, own_zf5_42 h0 hi, own_zs5_42 h0 hi, own_zf5_21 h0 hi, own_zs5_21 h0 hi, own_zf5_0 h0 hi, own_zs5_0 h0 hi, own_zf0_175 h0 hi, own_zs0_175 h0 hi, own_zf0_157 h0 hi, own_zs0_157 h0 hi, own_zf0_139 h0 hi, own_zs0_139 h0 hi, own_zf0_121 h0 hi, own_zs0_121 h0 hi] | rfl
theorem own_zs0_105 {g : Int32 → Int32} (h0 : g 0 = 0) (hi : ∀ a b, g a = g b ↔ a = b) (x5 : Int32) (v0 : List Int32) : s0_105 x5 (v0.map g) ↔ s0_105 x5 v0 := by
  unfold s0_105
  first | simp only [own_getM h0, hi, List.length_map, own_mb h0 hi, own_msb h0 hi, own_mf4 h0 hi, own_msf4 h0 hi, own_zf6_36 h0 hi, own_zs6_36 h0 hi, own_zf6_16 h0 hi, own_zs6_16 h0 hi, own_zf6_0 h0 hi, own_zs6_0 h0 hi, own_zf5_42 h0 hi, own_zs5_42 h0 hi, own_zf5_21 h0 hi, own_zs5_21 h0 hi, own_zf5_0 h0 hi, own_zs5_0 h0 hi, own_zf0_175 h0 hi, own_zs0_175 h0 hi, own_zf0_157 h0 hi, own_zs0_157 h0 hi, own_zf0_139 h0 hi, own_zs0_139 h0 hi, own_zf0_121 h0 hi, own_zs0_121 h0 hi, own_zf0_105 h0 hi] | rfl

instance own_dfits (n : Nat) (i j : Int32) : Decidable (own_fits n i j) := by unfold own_fits; infer_instance
instance own_ds6_36 (v0 : List Int32) (x1 : Int32) (x2 : Int32) (x3 : Int32) : Decidable (s6_36 v0 x1 x2 x3) := by
  unfold s6_36
  repeat' (first | infer_instance | refine own_dA ?_ ?_ | refine own_dI ?_ ?_)
instance own_ds6_16 (v0 : List Int32) (x1 : Int32) (x2 : Int32) (x3 : Int32) : Decidable (s6_16 v0 x1 x2 x3) := by
  unfold s6_16
  repeat' (first | infer_instance | refine own_dA ?_ ?_ | refine own_dI ?_ ?_)
instance own_ds6_0 (v0 : List Int32) (p1 : Int32) (p2 : Int32) (p3 : Int32) : Decidable (s6_0 v0 p1 p2 p3) := by
  unfold s6_0
  repeat' (first | infer_instance | refine own_dA ?_ ?_ | refine own_dI ?_ ?_)
instance own_ds5_42 (v0 : List Int32) (x1 : Int32) : Decidable (s5_42 v0 x1) := by
  unfold s5_42
  repeat' (first | infer_instance | refine own_dA ?_ ?_ | refine own_dI ?_ ?_)
instance own_ds5_21 (v0 : List Int32) (x1 : Int32) : Decidable (s5_21 v0 x1) := by
  unfold s5_21
  repeat' (first | infer_instance | refine own_dA ?_ ?_ | refine own_dI ?_ ?_)
instance own_ds5_0 (v0 : List Int32) (p1 : Int32) : Decidable (s5_0 v0 p1) := by
  unfold s5_0
  repeat' (first | infer_instance | refine own_dA ?_ ?_ | refine own_dI ?_ ?_)
instance own_ds4_0 (v_border : List Int32) (v_pattern : List Int32) : Decidable (s4_0 v_border v_pattern) := by
  unfold s4_0
  repeat' (first | infer_instance | refine own_dA ?_ ?_ | refine own_dI ?_ ?_)
instance own_ds0_271 (x5 : Int32) (x10 : Int32) (v0 : List Int32) : Decidable (s0_271 x5 x10 v0) := by
  unfold s0_271
  repeat' (first | infer_instance | refine own_dA ?_ ?_ | refine own_dI ?_ ?_)
instance own_ds0_254 (x5 : Int32) (x9 : Int32) (x10 : Int32) (v0 : List Int32) : Decidable (s0_254 x5 x9 x10 v0) := by
  unfold s0_254
  repeat' (first | infer_instance | refine own_dA ?_ ?_ | refine own_dI ?_ ?_)
instance own_ds0_237 (x5 : Int32) (x8 : Int32) (x9 : Int32) (x10 : Int32) (v0 : List Int32) : Decidable (s0_237 x5 x8 x9 x10 v0) := by
  unfold s0_237
  repeat' (first | infer_instance | refine own_dA ?_ ?_ | refine own_dI ?_ ?_)
instance own_ds0_175 (x5 : Int32) (v0 : List Int32) (x7 : Int32) (x8 : Int32) (x9 : Int32) (t0 : Int32) : Decidable (s0_175 x5 v0 x7 x8 x9 t0) := by
  unfold s0_175
  repeat' (first | infer_instance | refine own_dA ?_ ?_ | refine own_dI ?_ ?_)
instance own_ds0_157 (x5 : Int32) (v0 : List Int32) (x7 : Int32) (x8 : Int32) (t0 : Int32) : Decidable (s0_157 x5 v0 x7 x8 t0) := by
  unfold s0_157
  repeat' (first | infer_instance | refine own_dA ?_ ?_ | refine own_dI ?_ ?_)
instance own_ds0_139 (x5 : Int32) (v0 : List Int32) (x7 : Int32) (t0 : Int32) : Decidable (s0_139 x5 v0 x7 t0) := by
  unfold s0_139
  repeat' (first | infer_instance | refine own_dA ?_ ?_ | refine own_dI ?_ ?_)
instance own_ds0_121 (x5 : Int32) (v0 : List Int32) (t0 : Int32) : Decidable (s0_121 x5 v0 t0) := by
  unfold s0_121
  repeat' (first | infer_instance | refine own_dA ?_ ?_ | refine own_dI ?_ ?_)
instance own_ds0_105 (x5 : Int32) (v0 : List Int32) : Decidable (s0_105 x5 v0) := by
  unfold s0_105
  repeat' (first | infer_instance | refine own_dA ?_ ?_ | refine own_dI ?_ ?_)

def own_q (l : List Int32) : Bool := decide (s0_105 (own_len l.length) l) && decide (f0_105 (own_len l.length) l = 1)
theorem own_qinv (g : Int32 → Int32) (h0 : g 0 = 0) (hi : ∀ a b, g a = g b ↔ a = b) (l : List Int32) (h : own_q (l.map g) = true) : own_q l = true := by
  unfold own_q at h ⊢
  rw [List.length_map, own_zf0_105 h0 hi, Bool.and_eq_true, decide_eq_true_iff, decide_eq_true_iff, own_zs0_105 h0 hi] at h
  rw [Bool.and_eq_true, decide_eq_true_iff, decide_eq_true_iff]
  exact h
theorem own_q1 : own_allB own_q 1 0 [] = true := by decide +kernel
theorem own_q2 : own_allB own_q 2 0 [] = true := by decide +kernel
theorem own_q3 : own_allB own_q 3 0 [] = true := by decide +kernel
theorem own_q4 : own_allB own_q 4 0 [] = true := by decide +kernel
theorem own_q5 : own_allB own_q 5 0 [] = true := by decide +kernel
theorem own_105 (l : List Int32) {n : Nat} (hn : l.length = n) (hk : n < 9) (h : own_allB own_q n 0 [] = true) : s0_105 (own_len n) l ∧ f0_105 (own_len n) l = 1 := by
  have h := own_canon own_qinv n 0 [] (by omega) h (fun _ q => absurd q (by intro k; cases k)) l hn
  rw [List.nil_append] at h
  unfold own_q at h
  rw [Bool.and_eq_true, decide_eq_true_iff, decide_eq_true_iff, hn] at h
  exact h
theorem own_no {p : Prop} (h : ¬ p) {q : Prop} : p → q := fun k => absurd k h
theorem own_rem5 (x : Int32) : own_rem (x &&& 7) 5 = 0 ∨ own_rem (x &&& 7) 5 = 1 ∨ own_rem (x &&& 7) 5 = 2 ∨ own_rem (x &&& 7) 5 = 3 ∨ own_rem (x &&& 7) 5 = 4 := by
  have e := Jvm.Kit.i32_mask x 7 (k := 3) (by decide) (by decide)
  have e2 : (own_rem (x &&& 7) 5).toInt = (x &&& 7).toInt % 5 := own_emod (by omega)
  rw [own_eq, own_eq, own_eq, own_eq, own_eq, show (0 : Int32).toInt = 0 from rfl, show (1 : Int32).toInt = 1 from rfl, show (2 : Int32).toInt = 2 from rfl, show (3 : Int32).toInt = 3 from rfl, show (4 : Int32).toInt = 4 from rfl]
  omega
theorem own_inl {l : List Int32} {n : Nat} {j : Int32} (h : l.length = n) (k : own_in n j) : own_in l.length j := by rw [h]; exact k
theorem own_both (p0 p1 p2 p3 p4 : Int32) : s0_0 p0 p1 p2 p3 p4 ∧ f0_0 p0 p1 p2 p3 p4 = 1 := by
  unfold s0_0 f0_0
  have k := own_rem5 p0
  generalize own_rem (p0 &&& 7) 5 = m at *
  rcases k with rfl | rfl | rfl | rfl | rfl
  · have e : (1 : Int32) + 0 = Int32.ofNat 1 := by decide
    rw [e]
    have L0 : own_set (List.replicate (Int32.ofNat 1).toNatClampNeg (0 : Int32)) 0 (f1_0 p1 0 p2 p3 p4) = [f1_0 p1 0 p2 p3 p4] := rfl
    have c1 : ¬ (1 : Int32) < Int32.ofNat 1 := by decide
    have c2 : ¬ (2 : Int32) < Int32.ofNat 1 := by decide
    have c3 : ¬ (3 : Int32) < Int32.ofNat 1 := by decide
    have c4 : ¬ (4 : Int32) < Int32.ofNat 1 := by decide
    have r : s0_105 (Int32.ofNat 1) [f1_0 p1 0 p2 p3 p4] ∧ f0_105 (Int32.ofNat 1) [f1_0 p1 0 p2 p3 p4] = 1 := own_105 [f1_0 p1 0 p2 p3 p4] (n := 1) rfl (by decide) own_q1
    unfold s0_48 f0_48 s0_67 f0_67 s0_86 f0_86
    simp only [L0, if_neg c1, if_neg c2, if_neg c3, if_neg c4]
    exact ⟨⟨by decide, by decide, by decide, ⟨own_no c1, fun _ => ⟨own_no c2, fun _ => ⟨own_no c3, fun _ => ⟨own_no c4, fun _ => r.1⟩⟩⟩⟩⟩, r.2⟩
  · have e : (1 : Int32) + 1 = Int32.ofNat 2 := by decide
    rw [e]
    have L0 : own_set (List.replicate (Int32.ofNat 2).toNatClampNeg (0 : Int32)) 0 (f1_0 p1 0 p2 p3 p4) = [f1_0 p1 0 p2 p3 p4, 0] := rfl
    have L1 : own_set [f1_0 p1 0 p2 p3 p4, 0] 1 (f1_0 p1 1 p2 p3 p4) = [f1_0 p1 0 p2 p3 p4, f1_0 p1 1 p2 p3 p4] := rfl
    have c1 :  (1 : Int32) < Int32.ofNat 2 := by decide
    have c2 : ¬ (2 : Int32) < Int32.ofNat 2 := by decide
    have c3 : ¬ (3 : Int32) < Int32.ofNat 2 := by decide
    have c4 : ¬ (4 : Int32) < Int32.ofNat 2 := by decide
    have r : s0_105 (Int32.ofNat 2) [f1_0 p1 0 p2 p3 p4, f1_0 p1 1 p2 p3 p4] ∧ f0_105 (Int32.ofNat 2) [f1_0 p1 0 p2 p3 p4, f1_0 p1 1 p2 p3 p4] = 1 := own_105 [f1_0 p1 0 p2 p3 p4, f1_0 p1 1 p2 p3 p4] (n := 2) rfl (by decide) own_q2
    unfold s0_48 f0_48 s0_67 f0_67 s0_86 f0_86
    simp only [L0, L1, if_pos c1, if_neg c2, if_neg c3, if_neg c4]
    exact ⟨⟨by decide, by decide, by decide, ⟨fun _ => ⟨own_inl (n := 2) rfl (by decide), ⟨own_no c2, fun _ => ⟨own_no c3, fun _ => ⟨own_no c4, fun _ => r.1⟩⟩⟩⟩, fun k => absurd c1 k⟩⟩, r.2⟩
  · have e : (1 : Int32) + 2 = Int32.ofNat 3 := by decide
    rw [e]
    have L0 : own_set (List.replicate (Int32.ofNat 3).toNatClampNeg (0 : Int32)) 0 (f1_0 p1 0 p2 p3 p4) = [f1_0 p1 0 p2 p3 p4, 0, 0] := rfl
    have L1 : own_set [f1_0 p1 0 p2 p3 p4, 0, 0] 1 (f1_0 p1 1 p2 p3 p4) = [f1_0 p1 0 p2 p3 p4, f1_0 p1 1 p2 p3 p4, 0] := rfl
    have L2 : own_set [f1_0 p1 0 p2 p3 p4, f1_0 p1 1 p2 p3 p4, 0] 2 (f1_0 p1 2 p2 p3 p4) = [f1_0 p1 0 p2 p3 p4, f1_0 p1 1 p2 p3 p4, f1_0 p1 2 p2 p3 p4] := rfl
    have c1 :  (1 : Int32) < Int32.ofNat 3 := by decide
    have c2 :  (2 : Int32) < Int32.ofNat 3 := by decide
    have c3 : ¬ (3 : Int32) < Int32.ofNat 3 := by decide
    have c4 : ¬ (4 : Int32) < Int32.ofNat 3 := by decide
    have r : s0_105 (Int32.ofNat 3) [f1_0 p1 0 p2 p3 p4, f1_0 p1 1 p2 p3 p4, f1_0 p1 2 p2 p3 p4] ∧ f0_105 (Int32.ofNat 3) [f1_0 p1 0 p2 p3 p4, f1_0 p1 1 p2 p3 p4, f1_0 p1 2 p2 p3 p4] = 1 := own_105 [f1_0 p1 0 p2 p3 p4, f1_0 p1 1 p2 p3 p4, f1_0 p1 2 p2 p3 p4] (n := 3) rfl (by decide) own_q3
    unfold s0_48 f0_48 s0_67 f0_67 s0_86 f0_86
    simp only [L0, L1, L2, if_pos c1, if_pos c2, if_neg c3, if_neg c4]
    exact ⟨⟨by decide, by decide, by decide, ⟨fun _ => ⟨own_inl (n := 3) rfl (by decide), ⟨fun _ => ⟨own_inl (n := 3) rfl (by decide), ⟨own_no c3, fun _ => ⟨own_no c4, fun _ => r.1⟩⟩⟩, fun k => absurd c2 k⟩⟩, fun k => absurd c1 k⟩⟩, r.2⟩
  · have e : (1 : Int32) + 3 = Int32.ofNat 4 := by decide
    rw [e]
    have L0 : own_set (List.replicate (Int32.ofNat 4).toNatClampNeg (0 : Int32)) 0 (f1_0 p1 0 p2 p3 p4) = [f1_0 p1 0 p2 p3 p4, 0, 0, 0] := rfl
    have L1 : own_set [f1_0 p1 0 p2 p3 p4, 0, 0, 0] 1 (f1_0 p1 1 p2 p3 p4) = [f1_0 p1 0 p2 p3 p4, f1_0 p1 1 p2 p3 p4, 0, 0] := rfl
    have L2 : own_set [f1_0 p1 0 p2 p3 p4, f1_0 p1 1 p2 p3 p4, 0, 0] 2 (f1_0 p1 2 p2 p3 p4) = [f1_0 p1 0 p2 p3 p4, f1_0 p1 1 p2 p3 p4, f1_0 p1 2 p2 p3 p4, 0] := rfl
    have L3 : own_set [f1_0 p1 0 p2 p3 p4, f1_0 p1 1 p2 p3 p4, f1_0 p1 2 p2 p3 p4, 0] 3 (f1_0 p1 3 p2 p3 p4) = [f1_0 p1 0 p2 p3 p4, f1_0 p1 1 p2 p3 p4, f1_0 p1 2 p2 p3 p4, f1_0 p1 3 p2 p3 p4] := rfl
    have c1 :  (1 : Int32) < Int32.ofNat 4 := by decide
    have c2 :  (2 : Int32) < Int32.ofNat 4 := by decide
    have c3 :  (3 : Int32) < Int32.ofNat 4 := by decide
    have c4 : ¬ (4 : Int32) < Int32.ofNat 4 := by decide
    have r : s0_105 (Int32.ofNat 4) [f1_0 p1 0 p2 p3 p4, f1_0 p1 1 p2 p3 p4, f1_0 p1 2 p2 p3 p4, f1_0 p1 3 p2 p3 p4] ∧ f0_105 (Int32.ofNat 4) [f1_0 p1 0 p2 p3 p4, f1_0 p1 1 p2 p3 p4, f1_0 p1 2 p2 p3 p4, f1_0 p1 3 p2 p3 p4] = 1 := own_105 [f1_0 p1 0 p2 p3 p4, f1_0 p1 1 p2 p3 p4, f1_0 p1 2 p2 p3 p4, f1_0 p1 3 p2 p3 p4] (n := 4) rfl (by decide) own_q4
    unfold s0_48 f0_48 s0_67 f0_67 s0_86 f0_86
    simp only [L0, L1, L2, L3, if_pos c1, if_pos c2, if_pos c3, if_neg c4]
    exact ⟨⟨by decide, by decide, by decide, ⟨fun _ => ⟨own_inl (n := 4) rfl (by decide), ⟨fun _ => ⟨own_inl (n := 4) rfl (by decide), ⟨fun _ => ⟨own_inl (n := 4) rfl (by decide), ⟨own_no c4, fun _ => r.1⟩⟩, fun k => absurd c3 k⟩⟩, fun k => absurd c2 k⟩⟩, fun k => absurd c1 k⟩⟩, r.2⟩
  · have e : (1 : Int32) + 4 = Int32.ofNat 5 := by decide
    rw [e]
    have L0 : own_set (List.replicate (Int32.ofNat 5).toNatClampNeg (0 : Int32)) 0 (f1_0 p1 0 p2 p3 p4) = [f1_0 p1 0 p2 p3 p4, 0, 0, 0, 0] := rfl
    have L1 : own_set [f1_0 p1 0 p2 p3 p4, 0, 0, 0, 0] 1 (f1_0 p1 1 p2 p3 p4) = [f1_0 p1 0 p2 p3 p4, f1_0 p1 1 p2 p3 p4, 0, 0, 0] := rfl
    have L2 : own_set [f1_0 p1 0 p2 p3 p4, f1_0 p1 1 p2 p3 p4, 0, 0, 0] 2 (f1_0 p1 2 p2 p3 p4) = [f1_0 p1 0 p2 p3 p4, f1_0 p1 1 p2 p3 p4, f1_0 p1 2 p2 p3 p4, 0, 0] := rfl
    have L3 : own_set [f1_0 p1 0 p2 p3 p4, f1_0 p1 1 p2 p3 p4, f1_0 p1 2 p2 p3 p4, 0, 0] 3 (f1_0 p1 3 p2 p3 p4) = [f1_0 p1 0 p2 p3 p4, f1_0 p1 1 p2 p3 p4, f1_0 p1 2 p2 p3 p4, f1_0 p1 3 p2 p3 p4, 0] := rfl
    have L4 : own_set [f1_0 p1 0 p2 p3 p4, f1_0 p1 1 p2 p3 p4, f1_0 p1 2 p2 p3 p4, f1_0 p1 3 p2 p3 p4, 0] 4 (f1_0 p1 4 p2 p3 p4) = [f1_0 p1 0 p2 p3 p4, f1_0 p1 1 p2 p3 p4, f1_0 p1 2 p2 p3 p4, f1_0 p1 3 p2 p3 p4, f1_0 p1 4 p2 p3 p4] := rfl
    have c1 :  (1 : Int32) < Int32.ofNat 5 := by decide
    have c2 :  (2 : Int32) < Int32.ofNat 5 := by decide
    have c3 :  (3 : Int32) < Int32.ofNat 5 := by decide
    have c4 :  (4 : Int32) < Int32.ofNat 5 := by decide
    have r : s0_105 (Int32.ofNat 5) [f1_0 p1 0 p2 p3 p4, f1_0 p1 1 p2 p3 p4, f1_0 p1 2 p2 p3 p4, f1_0 p1 3 p2 p3 p4, f1_0 p1 4 p2 p3 p4] ∧ f0_105 (Int32.ofNat 5) [f1_0 p1 0 p2 p3 p4, f1_0 p1 1 p2 p3 p4, f1_0 p1 2 p2 p3 p4, f1_0 p1 3 p2 p3 p4, f1_0 p1 4 p2 p3 p4] = 1 := own_105 [f1_0 p1 0 p2 p3 p4, f1_0 p1 1 p2 p3 p4, f1_0 p1 2 p2 p3 p4, f1_0 p1 3 p2 p3 p4, f1_0 p1 4 p2 p3 p4] (n := 5) rfl (by decide) own_q5
    unfold s0_48 f0_48 s0_67 f0_67 s0_86 f0_86
    simp only [L0, L1, L2, L3, L4, if_pos c1, if_pos c2, if_pos c3, if_pos c4]
    exact ⟨⟨by decide, by decide, by decide, ⟨fun _ => ⟨own_inl (n := 5) rfl (by decide), ⟨fun _ => ⟨own_inl (n := 5) rfl (by decide), ⟨fun _ => ⟨own_inl (n := 5) rfl (by decide), ⟨fun _ => ⟨own_inl (n := 5) rfl (by decide), r.1⟩, fun k => absurd c4 k⟩⟩, fun k => absurd c3 k⟩⟩, fun k => absurd c2 k⟩⟩, fun k => absurd c1 k⟩⟩, r.2⟩
theorem own_law (p0 p1 p2 p3 p4 : Int32) : f0_0 p0 p1 p2 p3 p4 = 1 := (own_both p0 p1 p2 p3 p4).2
theorem own_safe (p0 p1 p2 p3 p4 : Int32) : s0_0 p0 p1 p2 p3 p4 := (own_both p0 p1 p2 p3 p4).1

set_option maxRecDepth 65536 in
set_option maxHeartbeats 40000000 in
theorem comes_1 {Post : Tables → Env → Array Value → State → Outcome → State → Prop} (hpost : ∀ tb e args s v u, (limb_1_1.after args s (.returned v) u = true ∧ limb_1_2.after args s (.returned v) u = true) → FrameEnd s (.returned v) u (Jvm.fieldLocs frame_1_writes args s ++ Jvm.arrayLocs frame_1_arrays args s ++ Jvm.staticLocs frame_1_statics s) 16 128 → Post tb e args s (.returned v) u) :
    ArmFor flags0 classFile x code maxLocals ret World_1 tables_1 room_1 Calls_1 rest_1 Pre_1 Post := by
  intro l hfl _ _ p e ha hc hk s m args below hf hA hF happ hP
  obtain ⟨hcalls, hrest, hpre⟩ := hP
  obtain ⟨-, -, -, hnamed, -, -, -, hat⟩ := (Spec.applies_iff hf).mp happ
  obtain ⟨hg, hn⟩ := and_e (Cond.before_iff.mp (show (Jvm.Cond.and given_1 narrow_1).before args s = true from hpre))
  obtain ⟨g1a, g1b⟩ := and_e hg
  obtain ⟨g2a, g2b⟩ := and_e g1b
  obtain ⟨g3a, g3b⟩ := and_e g2b
  obtain ⟨g4a, g4b⟩ := and_e g3b
  obtain ⟨g5a, g5b⟩ := and_e g4b
  obtain ⟨w0, w1, w2, w3, w4, rfl⟩ : ∃ w0 w1 w2 w3 w4 : Value, args = #[w0, w1, w2, w3, w4] := by
    have hs : args.size = 5 := by simpa [Cond.value, given_1] using g1a
    obtain ⟨L⟩ := args
    match L, hs with
    | [w0, w1, w2, w3, w4], _ => exact ⟨w0, w1, w2, w3, w4, rfl⟩
  have hw := fun d (hd : d ∈ tables_1) => atoms_spec (ws := Jvm.Cond.code x code maxLocals ret :: tables_1) hat d (List.mem_cons_of_mem _ hd)
  obtain ⟨i0, ei0⟩ := is_v g2a
  obtain rfl : w0 = (.int i0) := Option.some.inj ei0
  obtain ⟨i1, ei1⟩ := is_v g3a
  obtain rfl : w1 = (.int i1) := Option.some.inj ei1
  obtain ⟨i2, ei2⟩ := is_v g4a
  obtain rfl : w2 = (.int i2) := Option.some.inj ei2
  obtain ⟨i3, ei3⟩ := is_v g5a
  obtain rfl : w3 = (.int i3) := Option.some.inj ei3
  obtain ⟨i4, ei4⟩ := is_v g5b
  obtain rfl : w4 = (.int i4) := Option.some.inj ei4
  obtain ⟨n, o, h1, h2, h3, v, L, rfl, ⟨rfl, rfl⟩, hq⟩ := rm0 l s _ hw tables_1 i0 i1 i2 i3 i4 s.heap (own_safe i0 i1 i2 i3 i4) p e ha hc hk s m _ below hf ((Spec.applies_iff_loose hf).mp happ).1 ⟨rfl, State.Warmed39.refl s, rfl⟩ trivial
  have hv1 := own_law i0 i1 i2 i3 i4
  refine ⟨n, _, h1, h2, h3, hpost _ _ _ _ _ _ ⟨Cond.after_iff.mpr rfl, Cond.after_iff.mpr (eq_i res_at (Term.int_eval (1)) (by rw [hv1]) rfl)⟩ ⟨hq.1, hq.2.1, (hq.2.2.sift fun y hy => nomatch hy).mono (by decide) (by decide)⟩⟩
theorem main_1_1 : Claimed_1_1 := comes_1 fun _ _ _ _ _ _ h hF => ⟨h.1, hF⟩
theorem main_1_2 : Claimed_1_2 := comes_1 fun _ _ _ _ _ _ h hF => ⟨h.2, hF⟩
end Jvm.Pilot.@@N@@
namespace Jvm.Pilot.@@N@@
open Jvm Jvm.ClassFile Sem Op Lib Jvm.Free Jvm.Stand Jvm.Pilot.@@N@@.Jvm.D
/-! MADE BY PROGRAM (witnessworld.py) out of the Statement's table words and the real class files: 10 classes; the members and pool entries that the words name. The judged class is class 1, her method 4. -/
namespace start1
open Jvm.ClassFile
def u (s : String) : CpInfo := .utf8 (stringToUtf16 s)
/-- a pool by its gaps: so many unusable entries, then the entry; so many at the end -/
def gap : Nat → List CpInfo → List CpInfo
  | 0, r => r
  | n + 1, r => .unusable :: gap n r
def poolList (es : List (Nat × CpInfo)) (last : Nat) : List CpInfo := es.foldr (fun e r => gap e.1 (e.2 :: r)) (gap last [])
def pool (es : List (Nat × CpInfo)) (last : Nat) : Array CpInfo := ⟨poolList es last⟩
def fileOf (pool : Array CpInfo) (this : Nat) (attrs : Array Attribute := #[]) (ms : Array MethodInfo := #[]) (fl : Nat := 33) (sup : Nat := 0) (ifs : Array Nat := #[]) (fds : Array FieldInfo := #[]) : ClassFile where
  minorVersion := 0
  majorVersion := 65
  constantPool := pool
  accessFlags := fl
  thisClass := this
  superClass := sup
  interfaces := ifs
  fields := fds
  methods := ms
  attributes := attrs
def plain (name : String) (sup : Option ClassId) : Class where
  name := name
  kind := .ordinary
  loader := none
  accessFlags := 33
  super := sup
  interfaces := #[]
  cf := none
  fields := #[]
  methods := #[]
  instanceTypes := #[]
  staticTypes := #[]
  resolved := #[]
  callSites := []
  init := .initialized
  statics := none
  mirror := none

def pool0 : Array CpInfo := pool [(5, u "<init>"), (0, u "()V"), (1, .class_ 10), (1, u "java/lang/Object")] 113

def k0c0 : Code := { maxStack := 0, maxLocals := 1, code := object_method_1_code, exceptionTable := #[], attributes := #[] }
def k0m0 : Method := { name := "<init>", desc := "()V", sig := { parameters := [], returnType := none }, accessFlags := 1, code := some k0c0 }
/-- java/lang/Object -/
def k0 : Class := { plain "java/lang/Object" none with
  accessFlags := 33
  interfaces := #[]
  cf := some (fileOf pool0 8 #[] #[{ accessFlags := 1, nameIndex := 5, descriptorIndex := 6, attributes := #[] }] 33 0 #[] #[])
  fields := #[]
  methods := #[k0m0]
  instanceTypes := #[]
  staticTypes := #[]
  resolved := Array.replicate 124 none
  statics := none }

def pool1 : Array CpInfo := pool [(2, .class_ 4), (1, u "java/lang/Object"), (0, u "<init>"), (0, u "()V"), (0, .methodref 8 9), (0, .class_ 10), (0, .nameAndType 11 12), (0, u "com/example/bordertable/bordertable/BorderCoreNextPinLaw"), (0, u "eq"), (0, u "([IIII)Z"), (0, .methodref 8 14), (0, .nameAndType 15 16), (0, u "pick"), (0, u "(IIIII)I"), (0, .methodref 8 18), (0, .nameAndType 19 20), (0, u "border"), (0, u "([II)I"), (0, .class_ 22), (0, u "com/example/bordertable/bordertable/BorderCore"), (0, .methodref 21 24), (0, .nameAndType 5 25), (0, u "([I)V"), (0, .methodref 21 27), (0, .nameAndType 28 29), (0, u "next"), (0, u "()[I"), (3, u "law"), (0, u "(IIIII)Z")] 4

def k1m0 : Method := { name := "<init>", desc := "()V", sig := { parameters := [], returnType := none }, accessFlags := 1, code := none }
def k1c1 : Code := { maxStack := 3, maxLocals := 6, code := method_2_code, exceptionTable := #[], attributes := #[] }
def k1m1 : Method := { name := "pick", desc := "(IIIII)I", sig := { parameters := [.int, .int, .int, .int, .int], returnType := some .int }, accessFlags := 10, code := some k1c1 }
def k1c2 : Code := { maxStack := 4, maxLocals := 4, code := method_3_code, exceptionTable := #[], attributes := #[] }
def k1m2 : Method := { name := "eq", desc := "([IIII)Z", sig := { parameters := [(.array .int), .int, .int, .int], returnType := some .boolean }, accessFlags := 10, code := some k1c2 }
def k1c3 : Code := { maxStack := 4, maxLocals := 2, code := method_4_code, exceptionTable := #[], attributes := #[] }
def k1m3 : Method := { name := "border", desc := "([II)I", sig := { parameters := [(.array .int), .int], returnType := some .int }, accessFlags := 10, code := some k1c3 }
def k1c4 : Code := { maxStack := 7, maxLocals := 13, code := code, exceptionTable := #[], attributes := #[] }
def k1m4 : Method := { name := "law", desc := "(IIIII)Z", sig := { parameters := [.int, .int, .int, .int, .int], returnType := some .boolean }, accessFlags := 9, code := some k1c4 }
/-- com/example/bordertable/bordertable/BorderCoreNextPinLaw -/
def k1 : Class := { plain "com/example/bordertable/bordertable/BorderCoreNextPinLaw" (some 0) with
  accessFlags := 49
  interfaces := #[]
  cf := some (fileOf pool1 8 #[] #[{ accessFlags := 1, nameIndex := 5, descriptorIndex := 6, attributes := #[] }, { accessFlags := 10, nameIndex := 15, descriptorIndex := 16, attributes := #[] }, { accessFlags := 10, nameIndex := 11, descriptorIndex := 12, attributes := #[] }, { accessFlags := 10, nameIndex := 19, descriptorIndex := 20, attributes := #[] }, { accessFlags := 9, nameIndex := 33, descriptorIndex := 34, attributes := #[] }] 49 2 #[] #[])
  fields := #[]
  methods := #[k1m0, k1m1, k1m2, k1m3, k1m4]
  instanceTypes := #[]
  staticTypes := #[]
  resolved := Array.replicate 39 none
  statics := none }

def pool2 : Array CpInfo := pool [(1, .class_ 2), (0, u "com/example/bordertable/bordertable/BorderCore"), (2, .methodref 6 7), (0, .class_ 8), (0, .nameAndType 9 10), (0, u "java/lang/Object"), (0, u "<init>"), (0, u "()V"), (7, .fieldref 1 19), (0, .nameAndType 20 21), (0, u "pattern"), (0, u "[I"), (0, .fieldref 1 23), (0, .nameAndType 24 21), (0, u "border"), (0, .methodref 1 26), (0, .nameAndType 27 28), (0, u "advance"), (0, u "(II)I"), (5, .methodref 35 36), (0, .class_ 37), (0, .nameAndType 38 39), (0, u "java/lang/System"), (0, u "arraycopy"), (0, u "(Ljava/lang/Object;ILjava/lang/Object;II)V"), (2, u "next"), (0, u "()[I"), (36, .class_ 82), (1, u "com/example/bordertable/bordertable/BorderCore$Stretch"), (13, .class_ 97), (0, u "com/example/bordertable/bordertable/BorderCore$Scan"), (4, .class_ 104), (1, u "com/example/bordertable/bordertable/BorderCore$StreamPieces"), (34, .class_ 141), (1, u "com/example/bordertable/bordertable/BorderCore$Text"), (6, u "lookahead"), (0, u "Lcom/example/bordertable/bordertable/BorderCore$Lookahead;"), (1, .class_ 153), (1, u "com/example/bordertable/bordertable/BorderCore$Lookahead"), (9, u "I"), (8, .class_ 173), (0, u "com/example/bordertable/bordertable/BorderCore$StringScan"), (17, .class_ 193), (1, u "com/example/bordertable/bordertable/BorderCore$StartList"), (17, u "EVERY_START"), (0, u "Lcom/example/bordertable/bordertable/BorderCore$Sink;"), (52, .class_ 267), (1, u "com/example/bordertable/bordertable/BorderCore$Piece"), (26, u "PROBE_LENGTH"), (2, u "MOST_PENDING"), (1, u "PIECE_LENGTH"), (0, u "FIRST_PIECE_LENGTH"), (1, u "MOST_AHEAD"), (0, u "TRIAL_PLACES"), (1, u "DENSE_JUMPS"), (0, u "SIEVE_RUN"), (1, u "CROWDED_BLOCK"), (1, u "([I)V"), (56, .class_ 368), (0, u "com/example/bordertable/bordertable/BorderCore$Sink")] 73

def k2c0 : Code := { maxStack := 6, maxLocals := 3, code := prog_1_method_1_code, exceptionTable := #[], attributes := #[] }
def k2m0 : Method := { name := "<init>", desc := "([I)V", sig := { parameters := [(.array .int)], returnType := none }, accessFlags := 0, code := some k2c0 }
def k2c1 : Code := { maxStack := 3, maxLocals := 4, code := prog_1_method_2_code, exceptionTable := #[], attributes := #[] }
def k2m1 : Method := { name := "advance", desc := "(II)I", sig := { parameters := [.int, .int], returnType := some .int }, accessFlags := 0, code := some k2c1 }
def k2c2 : Code := { maxStack := 6, maxLocals := 2, code := prog_1_method_4_code, exceptionTable := #[], attributes := #[] }
def k2m2 : Method := { name := "next", desc := "()[I", sig := { parameters := [], returnType := some (.array .int) }, accessFlags := 0, code := some k2c2 }
/-- com/example/bordertable/bordertable/BorderCore -/
def k2 : Class := { plain "com/example/bordertable/bordertable/BorderCore" (some 0) with
  accessFlags := 48
  interfaces := #[]
  cf := some (fileOf pool2 1 #[.nestMembers #[151, 172, 191, 96, 102, 80, 265, 367, 139]] #[{ accessFlags := 0, nameIndex := 9, descriptorIndex := 310, attributes := #[] }, { accessFlags := 0, nameIndex := 27, descriptorIndex := 28, attributes := #[] }, { accessFlags := 0, nameIndex := 42, descriptorIndex := 43, attributes := #[] }] 48 6 #[] #[{ accessFlags := 24, nameIndex := 211, descriptorIndex := 212, attributes := #[] }, { accessFlags := 26, nameIndex := 294, descriptorIndex := 163, attributes := #[] }, { accessFlags := 26, nameIndex := 297, descriptorIndex := 163, attributes := #[] }, { accessFlags := 26, nameIndex := 299, descriptorIndex := 163, attributes := #[] }, { accessFlags := 26, nameIndex := 300, descriptorIndex := 163, attributes := #[] }, { accessFlags := 26, nameIndex := 302, descriptorIndex := 163, attributes := #[] }, { accessFlags := 26, nameIndex := 303, descriptorIndex := 163, attributes := #[] }, { accessFlags := 26, nameIndex := 305, descriptorIndex := 163, attributes := #[] }, { accessFlags := 26, nameIndex := 306, descriptorIndex := 163, attributes := #[] }, { accessFlags := 26, nameIndex := 308, descriptorIndex := 163, attributes := #[] }, { accessFlags := 18, nameIndex := 20, descriptorIndex := 21, attributes := #[] }, { accessFlags := 18, nameIndex := 24, descriptorIndex := 21, attributes := #[] }, { accessFlags := 2, nameIndex := 148, descriptorIndex := 149, attributes := #[] }])
  fields := #[{ name := "EVERY_START", type := (.object "com/example/bordertable/bordertable/BorderCore$Sink"), accessFlags := 24, slot := 0, constantValue := 0 }, { name := "PROBE_LENGTH", type := .int, accessFlags := 26, slot := 1, constantValue := 0 }, { name := "MOST_PENDING", type := .int, accessFlags := 26, slot := 2, constantValue := 0 }, { name := "PIECE_LENGTH", type := .int, accessFlags := 26, slot := 3, constantValue := 0 }, { name := "FIRST_PIECE_LENGTH", type := .int, accessFlags := 26, slot := 4, constantValue := 0 }, { name := "MOST_AHEAD", type := .int, accessFlags := 26, slot := 5, constantValue := 0 }, { name := "TRIAL_PLACES", type := .int, accessFlags := 26, slot := 6, constantValue := 0 }, { name := "DENSE_JUMPS", type := .int, accessFlags := 26, slot := 7, constantValue := 0 }, { name := "SIEVE_RUN", type := .int, accessFlags := 26, slot := 8, constantValue := 0 }, { name := "CROWDED_BLOCK", type := .int, accessFlags := 26, slot := 9, constantValue := 0 }, { name := "pattern", type := (.array .int), accessFlags := 18, slot := 0, constantValue := 0 }, { name := "border", type := (.array .int), accessFlags := 18, slot := 1, constantValue := 0 }, { name := "lookahead", type := (.object "com/example/bordertable/bordertable/BorderCore$Lookahead"), accessFlags := 2, slot := 2, constantValue := 0 }]
  methods := #[k2m0, k2m1, k2m2]
  instanceTypes := #[(.array .int), (.array .int), (.object "com/example/bordertable/bordertable/BorderCore$Lookahead")]
  staticTypes := #[(.object "com/example/bordertable/bordertable/BorderCore$Sink"), .int, .int, .int, .int, .int, .int, .int, .int, .int]
  resolved := Array.replicate 442 none
  statics := none }

def pool3 : Array CpInfo := pool [(2, .class_ 4), (1, u "java/lang/Object"), (0, u "<init>"), (0, u "()V"), (1, .class_ 10), (1, u "java/lang/System"), (0, u "allowSecurityManager"), (0, u "I"), (16, u "cons"), (0, u "Ljava/io/Console;"), (77, .class_ 110), (1, u "java/lang/System$CallersHolder"), (43, u "initialErrStream"), (0, u "Ljava/io/PrintStream;"), (19, u "security"), (0, u "Ljava/lang/SecurityManager;"), (31, .class_ 209), (0, u "java/lang/System$1"), (7, u "props"), (0, u "Ljava/util/Properties;"), (2, u "lineSeparator"), (0, u "Ljava/lang/String;"), (96, .class_ 321), (1, u "java/lang/System$LoggerFinder"), (5, .class_ 328), (0, u "java/lang/System$Logger"), (67, u "err"), (2, u "out"), (91, u "notSupportedJnuEncoding"), (15, u "in"), (17, u "initialIn"), (0, u "Ljava/io/InputStream;"), (35, u "bootLayer"), (0, u "Ljava/lang/ModuleLayer;"), (99, .class_ 664), (0, u "java/lang/System$2"), (9, u "NEVER"), (2, u "MAYBE"), (49, u "arraycopy"), (0, u "(Ljava/lang/Object;ILjava/lang/Object;II)V"), (72, .class_ 802), (0, u "java/lang/System$Logger$Level")] 31

def k3m0 : Method := { name := "<init>", desc := "()V", sig := { parameters := [], returnType := none }, accessFlags := 2, code := none }
def k3m1 : Method := { name := "arraycopy", desc := "(Ljava/lang/Object;ILjava/lang/Object;II)V", sig := { parameters := [(.object "java/lang/Object"), .int, (.object "java/lang/Object"), .int, .int], returnType := none }, accessFlags := 265, code := none }
/-- java/lang/System -/
def k3 : Class := { plain "java/lang/System" (some 0) with
  accessFlags := 49
  interfaces := #[]
  cf := some (fileOf pool3 8 #[.nestMembers #[319, 327, 801, 108, 663, 208]] #[{ accessFlags := 2, nameIndex := 5, descriptorIndex := 6, attributes := #[] }, { accessFlags := 265, nameIndex := 727, descriptorIndex := 728, attributes := #[] }] 49 2 #[] #[{ accessFlags := 25, nameIndex := 507, descriptorIndex := 526, attributes := #[] }, { accessFlags := 25, nameIndex := 399, descriptorIndex := 155, attributes := #[] }, { accessFlags := 25, nameIndex := 396, descriptorIndex := 155, attributes := #[] }, { accessFlags := 10, nameIndex := 525, descriptorIndex := 526, attributes := #[] }, { accessFlags := 26, nameIndex := 674, descriptorIndex := 12, attributes := #[] }, { accessFlags := 26, nameIndex := 677, descriptorIndex := 12, attributes := #[] }, { accessFlags := 10, nameIndex := 11, descriptorIndex := 12, attributes := #[] }, { accessFlags := 74, nameIndex := 175, descriptorIndex := 176, attributes := #[] }, { accessFlags := 10, nameIndex := 491, descriptorIndex := 222, attributes := #[] }, { accessFlags := 74, nameIndex := 29, descriptorIndex := 30, attributes := #[] }, { accessFlags := 74, nameIndex := 154, descriptorIndex := 155, attributes := #[] }, { accessFlags := 10, nameIndex := 217, descriptorIndex := 218, attributes := #[] }, { accessFlags := 10, nameIndex := 221, descriptorIndex := 222, attributes := #[] }, { accessFlags := 8, nameIndex := 562, descriptorIndex := 563, attributes := #[] }])
  fields := #[{ name := "in", type := (.object "java/io/InputStream"), accessFlags := 25, slot := 0, constantValue := 0 }, { name := "out", type := (.object "java/io/PrintStream"), accessFlags := 25, slot := 1, constantValue := 0 }, { name := "err", type := (.object "java/io/PrintStream"), accessFlags := 25, slot := 2, constantValue := 0 }, { name := "initialIn", type := (.object "java/io/InputStream"), accessFlags := 10, slot := 3, constantValue := 0 }, { name := "NEVER", type := .int, accessFlags := 26, slot := 4, constantValue := 0 }, { name := "MAYBE", type := .int, accessFlags := 26, slot := 5, constantValue := 0 }, { name := "allowSecurityManager", type := .int, accessFlags := 10, slot := 6, constantValue := 0 }, { name := "security", type := (.object "java/lang/SecurityManager"), accessFlags := 74, slot := 7, constantValue := 0 }, { name := "notSupportedJnuEncoding", type := (.object "java/lang/String"), accessFlags := 10, slot := 8, constantValue := 0 }, { name := "cons", type := (.object "java/io/Console"), accessFlags := 74, slot := 9, constantValue := 0 }, { name := "initialErrStream", type := (.object "java/io/PrintStream"), accessFlags := 74, slot := 10, constantValue := 0 }, { name := "props", type := (.object "java/util/Properties"), accessFlags := 10, slot := 11, constantValue := 0 }, { name := "lineSeparator", type := (.object "java/lang/String"), accessFlags := 10, slot := 12, constantValue := 0 }, { name := "bootLayer", type := (.object "java/lang/ModuleLayer"), accessFlags := 8, slot := 13, constantValue := 0 }]
  methods := #[k3m0, k3m1]
  instanceTypes := #[]
  staticTypes := #[(.object "java/io/InputStream"), (.object "java/io/PrintStream"), (.object "java/io/PrintStream"), (.object "java/io/InputStream"), .int, .int, .int, (.object "java/lang/SecurityManager"), (.object "java/lang/String"), (.object "java/io/Console"), (.object "java/io/PrintStream"), (.object "java/util/Properties"), (.object "java/lang/String"), (.object "java/lang/ModuleLayer")]
  resolved := Array.replicate 834 none
  statics := none }

def pool4 : Array CpInfo := pool [(1, u "java/lang/Cloneable"), (0, .class_ 1), (0, u "java/lang/Object"), (0, .class_ 3)] 3

/-- java/lang/Cloneable -/
def k4 : Class := { plain "java/lang/Cloneable" (some 0) with
  accessFlags := 1537
  interfaces := #[]
  cf := some (fileOf pool4 2 #[] #[] 1537 4 #[] #[])
  fields := #[]
  methods := #[]
  instanceTypes := #[]
  staticTypes := #[]
  resolved := Array.replicate 8 none
  statics := none }

def pool5 : Array CpInfo := pool [(1, u "java/io/Serializable"), (0, .class_ 1), (0, u "java/lang/Object"), (0, .class_ 3)] 3

/-- java/io/Serializable -/
def k5 : Class := { plain "java/io/Serializable" (some 0) with
  accessFlags := 1537
  interfaces := #[]
  cf := some (fileOf pool5 2 #[] #[] 1537 4 #[] #[])
  fields := #[]
  methods := #[]
  instanceTypes := #[]
  staticTypes := #[]
  resolved := Array.replicate 8 none
  statics := none }

/-- the primitive byte -/
def k6 : Class := { plain "byte" none with kind := .primitive 'B', accessFlags := 0x411 }
/-- [B -/
def k7 : Class := { plain "[B" (some 0) with kind := .array 6 .byte, interfaces := #[4, 5], accessFlags := 1041 }

/-- the primitive int -/
def k8 : Class := { plain "int" none with kind := .primitive 'I', accessFlags := 0x411 }
/-- [I -/
def k9 : Class := { plain "[I" (some 0) with kind := .array 8 .int, interfaces := #[4, 5], accessFlags := 1041 }

def heap : Heap := #[]
def classes : Array Class := #[k0, k1, k2, k3, k4, k5, k6, k7, k8, k9]
def interned : List (Array UInt16 × Addr) := []
def slotsUsed : Nat := 0
def theMethod : MethodId := ⟨1, 4⟩
def args0 : Array Value := #[.int 5, .int 5, .int 5, .int 5, .int 5]
def aboutOver (below : List Frame) : State where
  vm := { classes := classes, interned := interned.toArray }
  heap := heap
  slotsUsed := slotsUsed
  threads := #[{ frames := .invoking theMethod args0 :: below }]
def below0 : List Frame := [.native { method := ⟨0, 0⟩, args := #[] }]
def about1 : State := aboutOver below0
def p0 : Program := .bare "" "" ""
def e0 : Env := launch0.env 0 0 0
theorem w_frames : about1.frames = Frame.invoking theMethod args0 :: below0 := rfl
set_option maxRecDepth 65536 in
theorem w_args : argsFit about1.vm theMethod args0 = true := by decide +kernel
set_option maxRecDepth 65536 in
theorem w_heap : heapFits about1 = true := by decide +kernel
set_option maxRecDepth 65536 in
theorem w_runnable : about1.curStatus? = some .runnable := by decide +kernel
set_option maxRecDepth 65536 in
theorem w_alone : about1.alone = true := by decide +kernel
set_option maxRecDepth 65536 in
theorem w_named : about1.methodNamed? x = some theMethod := by decide +kernel
set_option maxRecDepth 65536 in
theorem w_hears : about1.hears theMethod below0 = true := by decide +kernel
set_option maxRecDepth 65536 in
theorem w_ripe : about1.ripe theMethod args0 below0 = true := by decide +kernel
theorem w_running : about1.status = .running := rfl
set_option maxRecDepth 65536 in
theorem w_room : about1.hasRoom e0.platform room_1 = true :=
  launch0.hasRoom_least _ room_1 (by decide +kernel) (by decide +kernel) (by decide +kernel) (by decide +kernel) (by decide +kernel) (by decide +kernel)
theorem allAtoms_all (ts : List Jvm.Cond) (a : Array Jvm.Value) (st : Jvm.State) : (allAtoms ts).before a st = ts.all (fun c => c.before a st) := by
  induction ts with
  | nil => rfl
  | cons c t ih =>
    show (Jvm.Cond.and c (allAtoms t)).before a st = _
    rw [Jvm.Cond.before_and, ih, List.all_cons]
def words1 : List Jvm.Cond := Jvm.Cond.code x code maxLocals ret :: tables_1
/-- a 'code' word, met by the world's own term for the bytes: nothing is compared byte by byte -/
theorem code_word {y : MethodName} {bytes : ByteArray} {mx : Nat} {rt : Option FieldType} {a : Array Value} {s : State} {m : MethodId} {meth : Method} {c : Code} (h1 : s.methodNamed? y = some m) (h2 : s.vm.method? m = some meth) (h3 : meth.code = some c) (h4 : c.code = bytes)
    (h5 : (c.maxLocals == mx && c.exceptionTable.isEmpty && decide (c.maxStack ≤ mostOperands) && decide (meth.sig.returnType = rt) && !meth.locks && decide (parseMethodDescriptor y.desc = some meth.sig)) = true) : (Jvm.Cond.code y bytes mx rt).before a s = true := by
  simp only [Bool.and_eq_true, beq_iff_eq, Bool.not_eq_true', decide_eq_true_eq] at h5
  obtain ⟨⟨⟨⟨⟨g1, g2⟩, g3⟩, g4⟩, g5⟩, g6⟩ := h5
  simp [Cond.before, Cond.holds, Cond.value, h1, h2, h3, h4, g1, g2, g3, g4, g5, g6]
def isCode : Jvm.Cond → Bool
  | .code _ _ _ _ => true
  | _ => false
theorem all_split {L : List Jvm.Cond} {P : Jvm.Cond → Bool} (h1 : L.all (fun c => isCode c || P c) = true) (h2 : ∀ c ∈ L.filter isCode, P c = true) : L.all P = true := by
  refine List.all_eq_true.mpr fun c hc => ?_
  have h := List.all_eq_true.mp h1 c hc
  rcases Bool.eq_false_or_eq_true (isCode c) with hi | hi
  · exact h2 c (List.mem_filter.mpr ⟨hc, hi⟩)
  · simpa [hi] using h
set_option maxRecDepth 65536 in
theorem w_c0 : (Jvm.Cond.code x code maxLocals ret).before args0 about1 = true := code_word (m := ⟨1, 4⟩) (meth := k1m4) (c := k1c4) (by decide +kernel) rfl rfl rfl (by decide +kernel)
set_option maxRecDepth 65536 in
theorem w_c1 : (Jvm.Cond.code ({ cls := "com/example/bordertable/bordertable/BorderCoreNextPinLaw", name := "pick", desc := "(IIIII)I" } : Jvm.MethodName) method_2_code (6 : Nat) (Option.some Jvm.ClassFile.FieldType.int)).before args0 about1 = true := code_word (m := ⟨1, 1⟩) (meth := k1m1) (c := k1c1) (by decide +kernel) rfl rfl rfl (by decide +kernel)
set_option maxRecDepth 65536 in
theorem w_c2 : (Jvm.Cond.code ({ cls := "com/example/bordertable/bordertable/BorderCore", name := "<init>", desc := "([I)V" } : Jvm.MethodName) prog_1_method_1_code (3 : Nat) (Option.none : Option Jvm.ClassFile.FieldType)).before args0 about1 = true := code_word (m := ⟨2, 0⟩) (meth := k2m0) (c := k2c0) (by decide +kernel) rfl rfl rfl (by decide +kernel)
set_option maxRecDepth 65536 in
theorem w_c3 : (Jvm.Cond.code ({ cls := "java/lang/Object", name := "<init>", desc := "()V" } : Jvm.MethodName) object_method_1_code (1 : Nat) (Option.none : Option Jvm.ClassFile.FieldType)).before args0 about1 = true := code_word (m := ⟨0, 0⟩) (meth := k0m0) (c := k0c0) (by decide +kernel) rfl rfl rfl (by decide +kernel)
set_option maxRecDepth 65536 in
theorem w_c4 : (Jvm.Cond.code ({ cls := "com/example/bordertable/bordertable/BorderCore", name := "next", desc := "()[I" } : Jvm.MethodName) prog_1_method_4_code (2 : Nat) (Option.some (Jvm.ClassFile.FieldType.array Jvm.ClassFile.FieldType.int))).before args0 about1 = true := code_word (m := ⟨2, 2⟩) (meth := k2m2) (c := k2c2) (by decide +kernel) rfl rfl rfl (by decide +kernel)
set_option maxRecDepth 65536 in
theorem w_c5 : (Jvm.Cond.code ({ cls := "com/example/bordertable/bordertable/BorderCoreNextPinLaw", name := "border", desc := "([II)I" } : Jvm.MethodName) method_4_code (2 : Nat) (Option.some Jvm.ClassFile.FieldType.int)).before args0 about1 = true := code_word (m := ⟨1, 3⟩) (meth := k1m3) (c := k1c3) (by decide +kernel) rfl rfl rfl (by decide +kernel)
set_option maxRecDepth 65536 in
theorem w_c6 : (Jvm.Cond.code ({ cls := "com/example/bordertable/bordertable/BorderCoreNextPinLaw", name := "eq", desc := "([IIII)Z" } : Jvm.MethodName) method_3_code (4 : Nat) (Option.some Jvm.ClassFile.FieldType.boolean)).before args0 about1 = true := code_word (m := ⟨1, 2⟩) (meth := k1m2) (c := k1c2) (by decide +kernel) rfl rfl rfl (by decide +kernel)
set_option maxRecDepth 65536 in
theorem w_c7 : (Jvm.Cond.code ({ cls := "com/example/bordertable/bordertable/BorderCore", name := "advance", desc := "(II)I" } : Jvm.MethodName) prog_1_method_2_code (4 : Nat) (Option.some Jvm.ClassFile.FieldType.int)).before args0 about1 = true := code_word (m := ⟨2, 1⟩) (meth := k2m1) (c := k2c1) (by decide +kernel) rfl rfl rfl (by decide +kernel)
def codes1 : List Jvm.Cond := [Jvm.Cond.code x code maxLocals ret, Jvm.Cond.code ({ cls := "com/example/bordertable/bordertable/BorderCoreNextPinLaw", name := "pick", desc := "(IIIII)I" } : Jvm.MethodName) method_2_code (6 : Nat) (Option.some Jvm.ClassFile.FieldType.int), Jvm.Cond.code ({ cls := "com/example/bordertable/bordertable/BorderCore", name := "<init>", desc := "([I)V" } : Jvm.MethodName) prog_1_method_1_code (3 : Nat) (Option.none : Option Jvm.ClassFile.FieldType), Jvm.Cond.code ({ cls := "java/lang/Object", name := "<init>", desc := "()V" } : Jvm.MethodName) object_method_1_code (1 : Nat) (Option.none : Option Jvm.ClassFile.FieldType), Jvm.Cond.code ({ cls := "com/example/bordertable/bordertable/BorderCore", name := "next", desc := "()[I" } : Jvm.MethodName) prog_1_method_4_code (2 : Nat) (Option.some (Jvm.ClassFile.FieldType.array Jvm.ClassFile.FieldType.int)), Jvm.Cond.code ({ cls := "com/example/bordertable/bordertable/BorderCoreNextPinLaw", name := "border", desc := "([II)I" } : Jvm.MethodName) method_4_code (2 : Nat) (Option.some Jvm.ClassFile.FieldType.int), Jvm.Cond.code ({ cls := "com/example/bordertable/bordertable/BorderCoreNextPinLaw", name := "eq", desc := "([IIII)Z" } : Jvm.MethodName) method_3_code (4 : Nat) (Option.some Jvm.ClassFile.FieldType.boolean), Jvm.Cond.code ({ cls := "com/example/bordertable/bordertable/BorderCore", name := "advance", desc := "(II)I" } : Jvm.MethodName) prog_1_method_2_code (4 : Nat) (Option.some Jvm.ClassFile.FieldType.int)]
set_option maxRecDepth 65536 in
theorem codes_eq : words1.filter isCode = codes1 := rfl
theorem w_codes : ∀ c ∈ words1.filter isCode, c.before args0 about1 = true := by
  rw [codes_eq]
  intro c hc
  simp only [codes1, List.mem_cons, List.not_mem_nil, or_false] at hc
  rcases hc with rfl | rfl | rfl | rfl | rfl | rfl | rfl | rfl
  · exact w_c0
  · exact w_c1
  · exact w_c2
  · exact w_c3
  · exact w_c4
  · exact w_c5
  · exact w_c6
  · exact w_c7
set_option maxRecDepth 65536 in
theorem w_t1 : (words1.take 24).all (fun c => isCode c || c.before args0 about1) = true := by decide +kernel
set_option maxRecDepth 65536 in
theorem w_t2 : (words1.drop 24).all (fun c => isCode c || c.before args0 about1) = true := by decide +kernel
theorem w_tables : (allAtoms (Jvm.Cond.code x code maxLocals ret :: tables_1)).before args0 about1 = true := by
  rw [allAtoms_all]
  show words1.all (fun c => c.before args0 about1) = true
  refine all_split ?_ w_codes
  rw [← List.take_append_drop 24 words1, List.all_append, w_t1, w_t2]
  rfl
set_option maxRecDepth 65536 in
theorem w_case : (Jvm.Cond.and given_1 narrow_1).before args0 about1 = true := by decide +kernel
theorem w_applies : (headSpec (Jvm.Cond.code x code maxLocals ret :: tables_1) room_1).applies x e0.platform about1 = true :=
  (Spec.applies_iff w_frames).mpr ⟨w_running, w_runnable, w_alone, w_named, w_hears, w_ripe, w_room, w_tables⟩
theorem atStart : AtStart classFile x code maxLocals ret World_1 tables_1 room_1 Calls_1 rest_1 Pre_1 launch0 p0 e0 about1 theMethod args0 below0 :=
  ⟨lists_1, trivial, launch0.admits_env _ _ _, launch0.least_env, fairChoices_fair.cas, fairChoices_fair.clock, w_frames, w_args, w_heap, w_applies, trivial, trivial, w_case⟩
end start1
theorem witness_1 : WitnessClaimed_1 := ⟨start1.p0, start1.e0, start1.about1, start1.theMethod, start1.args0, start1.below0, start1.atStart⟩
end Jvm.Pilot.@@N@@
