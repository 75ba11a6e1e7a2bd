import JvmDerived
import JvmDerived.Pilot.@@N@@Statement
import JvmDerived.Pilot.@@N@@Code
set_option linter.unusedVariables false
set_option linter.unusedSimpArgs false
@@BLOCK:NumsL.lean.txt@@
namespace Jvm.RoadKit
open Sem ClassFile Op Lib Jvm.Stand Jvm.Free Jvm.LawKit
section New
variable {p : Program} {l : Launch} {e : Env} {R : Room} {s : State} {m : MethodId} {args : Array Value} {below : List Frame} {meth : Method} {c : Code} {T : State} {locs : List Loc} {cells slots : Nat}
theorem retI (X : Stand p l e R s m args below meth c T locs cells slots) (hx : p.tables.exec = Jvm.exec) {pc : Nat} {Ls : Array Slot} {z : Int32} {rest : List Value} (hret : meth.sig.returnType = some .int) (hd : decode c.code pc = .ok (.ireturn, 1)) {fs : List Frame}
    (hl : ∀ (f : JFrame) (acts : List Action), f.method = m → f.locked = none → f.entered = [] → (doReturn e (T.setTop f) acts (some (.int z))).1 = T.setFrames fs) : Steps p.tables e below (T.setTop (mkF m pc Ls (.int z :: rest))) (T.setFrames fs) := by
  have hm' : T.vm.method? m = some meth := X.method'
  have hn : narrow .int (.int z) = .int z := rfl
  show Steps p.tables e below (T.setTop { method := m, pc := pc, locals := Ls, stack := _ :: rest, locked := none }) _
  jvm_step X.here [X.here.top, hx, hd, hm', hret, hn]
  first | (intro acts; rw [hl _ acts rfl rfl rfl]) | rw [hl _ _ rfl rfl rfl]
  exact Steps.refl _
end New
end Jvm.RoadKit
namespace Jvm.Pilot.@@N@@
open Jvm Jvm.ClassFile Sem Op Lib Jvm.Free Jvm.Stand Jvm.LawKit Jvm.RoadKit Bundle Jvm.Pilot.@@N@@.Jvm.D
/-! OWN KIT: a run that comes to an end, one law an instruction, arrays as lists (written once, pasted by wip/gen/lawgen.py) -/
section OwnKit
variable {p : Program} {l : Launch} {e : Env} {R : Room} {s : State} {m : MethodId} {args : Array Value} {below : List Frame} {meth : Method} {c : Code} {T T' : State} {locs : List Loc} {cells slots : Nat} {Z : State} {a0 : Array Value} {h h' : Heap}
variable {Q : Outcome → State → Prop} {K : Option Value → Heap → List Loc → Prop} {cc ss : Nat}
variable {pc pc' pc1 pc2 : Nat} {Ls l' : Array Slot} {rest : List Value} {x y : Int32} {u w : Int64}
/-- from T, with g on top, the run comes to an end of which Q holds -/
def own_Go (p : Program) (e : Env) (below : List Frame) (Q : Outcome → State → Prop) (T : State) (g : JFrame) : Prop :=
  ∃ s₂ o, Steps p.tables e below (T.setTop g) s₂ ∧ s₂.status = .running ∧ Ended s₂ below o ∧ Q o s₂
/-- what a body's end says: it returned, K holds of the value, the heap and the old places written -/
def own_Q (s : State) (K : Option Value → Heap → List Loc → Prop) (cc ss : Nat) : Outcome → State → Prop := fun o t => ∃ v L, o = .returned v ∧ K v t.heap L ∧ FrameEnd s o t L cc ss
/-- what stands fast in one body -/
def own_Cx (p : Program) (s : State) (m : MethodId) (meth : Method) (c : Code) (Z : State) (a0 : Array Value) (bytes : ByteArray) (ml : Nat) (own : String) (rt : Option FieldType) (nm : String) : Prop :=
  p.tables.exec = Jvm.exec ∧ Z.Warmed39 s.vm ∧ (∀ d ∈ tables_1, d.before a0 Z = true) ∧ c.code = bytes ∧ c.maxLocals = ml ∧ s.vm.findClass own = some m.cls ∧ meth.sig.returnType = rt ∧ meth.locks = false ∧ meth.name = nm
theorem own_go {g g' : JFrame} (st : ∀ t, Steps p.tables e below (T'.setTop g') t → Steps p.tables e below (T.setTop g) t) (k : own_Go p e below Q T' g') : own_Go p e below Q T g := by
  obtain ⟨s₂, o, h1, h2⟩ := k
  exact ⟨s₂, o, st _ h1, h2⟩
theorem o_iloadN (X : Stand p l e R s m args below meth c T locs cells slots) (hx : p.tables.exec = Jvm.exec) {k : Fin 4} {v : Int32} (hd : decode c.code pc = .ok (.iload_n k, 1)) (hl : Ls[k.val]? = some (.val (.int v))) (hp : pc + 1 = pc') (q : own_Go p e below Q T (mkF m pc' Ls (.int v :: rest))) : own_Go p e below Q T (mkF m pc Ls rest) := by
  subst hp; exact own_go (fun t k' => XS.iloadN X.here hx rfl hd hl k') q
theorem o_iload (X : Stand p l e R s m args below meth c T locs cells slots) (hx : p.tables.exec = Jvm.exec) {k : Nat} {v : Int32} (hd : decode c.code pc = .ok (.iload k, 2)) (hl : Ls[k]? = some (.val (.int v))) (hp : pc + 2 = pc') (q : own_Go p e below Q T (mkF m pc' Ls (.int v :: rest))) : own_Go p e below Q T (mkF m pc Ls rest) := by
  subst hp; exact own_go (fun t k' => XS.iload X.here hx rfl hd hl k') q
theorem o_lloadN (X : Stand p l e R s m args below meth c T locs cells slots) (hx : p.tables.exec = Jvm.exec) {k : Fin 4} {v : Int64} (hd : decode c.code pc = .ok (.lload_n k, 1)) (hl : Ls[k.val]? = some (.val (.long v))) (hp : pc + 1 = pc') (q : own_Go p e below Q T (mkF m pc' Ls (.long v :: rest))) : own_Go p e below Q T (mkF m pc Ls rest) := by
  subst hp; exact own_go (fun t k' => XS.lloadN X.here hx rfl hd hl k') q
theorem o_lload (X : Stand p l e R s m args below meth c T locs cells slots) (hx : p.tables.exec = Jvm.exec) {k : Nat} {v : Int64} (hd : decode c.code pc = .ok (.lload k, 2)) (hl : Ls[k]? = some (.val (.long v))) (hp : pc + 2 = pc') (q : own_Go p e below Q T (mkF m pc' Ls (.long v :: rest))) : own_Go p e below Q T (mkF m pc Ls rest) := by
  subst hp; exact own_go (fun t k' => XS.lload X.here hx rfl hd hl k') q
theorem o_aloadN (X : Stand p l e R s m args below meth c T locs cells slots) (hx : p.tables.exec = Jvm.exec) {k : Fin 4} {v : Value} (hd : decode c.code pc = .ok (.aload_n k, 1)) (hl : Ls[k.val]? = some (.val v)) (hv : v.isRef = true) (hp : pc + 1 = pc') (q : own_Go p e below Q T (mkF m pc' Ls (v :: rest))) : own_Go p e below Q T (mkF m pc Ls rest) := by
  subst hp; exact own_go (fun t k' => XS.aloadN X.here hx rfl hd hl hv k') q
theorem o_aload (X : Stand p l e R s m args below meth c T locs cells slots) (hx : p.tables.exec = Jvm.exec) {k : Nat} {v : Value} (hd : decode c.code pc = .ok (.aload k, 2)) (hl : Ls[k]? = some (.val v)) (hv : v.isRef = true) (hp : pc + 2 = pc') (q : own_Go p e below Q T (mkF m pc' Ls (v :: rest))) : own_Go p e below Q T (mkF m pc Ls rest) := by
  subst hp; exact own_go (fun t k' => XS.aload X.here hx rfl hd hl hv k') q
theorem o_istoreN (X : Stand p l e R s m args below meth c T locs cells slots) (hx : p.tables.exec = Jvm.exec) {k : Fin 4} (hd : decode c.code pc = .ok (.istore_n k, 1)) (hl : storeLocals Ls k.val (.int x) = some l') (hp : pc + 1 = pc') (q : own_Go p e below Q T (mkF m pc' l' rest)) : own_Go p e below Q T (mkF m pc Ls (.int x :: rest)) := by
  subst hp; exact own_go (fun t k' => XS.istoreN X.here hx rfl hd rfl hl k') q
theorem o_istore (X : Stand p l e R s m args below meth c T locs cells slots) (hx : p.tables.exec = Jvm.exec) {k : Nat} (hd : decode c.code pc = .ok (.istore k, 2)) (hl : storeLocals Ls k (.int x) = some l') (hp : pc + 2 = pc') (q : own_Go p e below Q T (mkF m pc' l' rest)) : own_Go p e below Q T (mkF m pc Ls (.int x :: rest)) := by
  subst hp; exact own_go (fun t k' => XS.istore X.here hx rfl hd rfl hl k') q
theorem o_lstoreN (X : Stand p l e R s m args below meth c T locs cells slots) (hx : p.tables.exec = Jvm.exec) {k : Fin 4} (hd : decode c.code pc = .ok (.lstore_n k, 1)) (hl : storeLocals Ls k.val (.long u) = some l') (hp : pc + 1 = pc') (q : own_Go p e below Q T (mkF m pc' l' rest)) : own_Go p e below Q T (mkF m pc Ls (.long u :: rest)) := by
  subst hp; exact own_go (fun t k' => XS.lstoreN X.here hx rfl hd rfl hl k') q
theorem o_lstore (X : Stand p l e R s m args below meth c T locs cells slots) (hx : p.tables.exec = Jvm.exec) {k : Nat} (hd : decode c.code pc = .ok (.lstore k, 2)) (hl : storeLocals Ls k (.long u) = some l') (hp : pc + 2 = pc') (q : own_Go p e below Q T (mkF m pc' l' rest)) : own_Go p e below Q T (mkF m pc Ls (.long u :: rest)) := by
  subst hp; exact own_go (fun t k' => XS.lstore X.here hx rfl hd rfl hl k') q
theorem o_astoreN (X : Stand p l e R s m args below meth c T locs cells slots) (hx : p.tables.exec = Jvm.exec) {k : Fin 4} {v : Value} (hd : decode c.code pc = .ok (.astore_n k, 1)) (hv : v.isRef = true) (hl : storeLocals Ls k.val v = some l') (hp : pc + 1 = pc') (q : own_Go p e below Q T (mkF m pc' l' rest)) : own_Go p e below Q T (mkF m pc Ls (v :: rest)) := by
  subst hp; exact own_go (fun t k' => XS.astoreN X.here hx rfl hd rfl hv hl k') q
theorem o_astore (X : Stand p l e R s m args below meth c T locs cells slots) (hx : p.tables.exec = Jvm.exec) {k : Nat} {v : Value} (hd : decode c.code pc = .ok (.astore k, 2)) (hv : v.isRef = true) (hl : storeLocals Ls k v = some l') (hp : pc + 2 = pc') (q : own_Go p e below Q T (mkF m pc' l' rest)) : own_Go p e below Q T (mkF m pc Ls (v :: rest)) := by
  subst hp; exact own_go (fun t k' => XS.astore X.here hx rfl hd rfl hv hl k') q
theorem o_iconst (X : Stand p l e R s m args below meth c T locs cells slots) (hx : p.tables.exec = Jvm.exec) {i : Int} (hd : decode c.code pc = .ok (.iconst i, 1)) (hv : Int32.ofInt i = x) (hp : pc + 1 = pc') (q : own_Go p e below Q T (mkF m pc' Ls (.int x :: rest))) : own_Go p e below Q T (mkF m pc Ls rest) := by
  subst hp hv; exact own_go (fun t k' => XS.iconst X.here hx rfl hd k') q
theorem o_bipush (X : Stand p l e R s m args below meth c T locs cells slots) (hx : p.tables.exec = Jvm.exec) {i : Int} (hd : decode c.code pc = .ok (.bipush i, 2)) (hv : (Int8.ofInt i).toInt32 = x) (hp : pc + 2 = pc') (q : own_Go p e below Q T (mkF m pc' Ls (.int x :: rest))) : own_Go p e below Q T (mkF m pc Ls rest) := by
  subst hp hv; exact own_go (fun t k' => XS.bipush X.here hx rfl hd k') q
theorem o_sipush (X : Stand p l e R s m args below meth c T locs cells slots) (hx : p.tables.exec = Jvm.exec) {i : Int} (hd : decode c.code pc = .ok (.sipush i, 3)) (hv : (Int16.ofInt i).toInt32 = x) (hp : pc + 3 = pc') (q : own_Go p e below Q T (mkF m pc' Ls (.int x :: rest))) : own_Go p e below Q T (mkF m pc Ls rest) := by
  subst hp hv; exact own_go (fun t k' => XS.sipush X.here hx rfl hd k') q
theorem o_lconst (X : Stand p l e R s m args below meth c T locs cells slots) (hx : p.tables.exec = Jvm.exec) {k : Fin 2} (hd : decode c.code pc = .ok (.lconst k, 1)) (hv : Int64.ofNat k = u) (hp : pc + 1 = pc') (q : own_Go p e below Q T (mkF m pc' Ls (.long u :: rest))) : own_Go p e below Q T (mkF m pc Ls rest) := by
  subst hp hv; exact own_go (fun t k' => XS.lconst X.here hx rfl hd k') q
theorem o_ldcI (X : Stand p l e R s m args below meth c T locs cells slots) (hx : p.tables.exec = Jvm.exec) (hZ : Z.Warmed39 s.vm) {own : String} {index : Nat} (hown : s.vm.findClass own = some m.cls) (w1 : (Cond.constant own index x).before a0 Z = true) (hd : decode c.code pc = .ok (.ldc index, 2)) (hp : pc + 2 = pc') (q : own_Go p e below Q T (mkF m pc' Ls (.int x :: rest))) : own_Go p e below Q T (mkF m pc Ls rest) := by
  subst hp; exact own_go (fun t k' => X.ldcInt hx hown (mvT hZ w1) (g := mkF m pc Ls rest) rfl hd t k') q
theorem o_ldcL (X : Stand p l e R s m args below meth c T locs cells slots) (hx : p.tables.exec = Jvm.exec) (hZ : Z.Warmed39 s.vm) {own : String} {index : Nat} (hown : s.vm.findClass own = some m.cls) (w1 : (Cond.constantLong own index u).before a0 Z = true) (hd : decode c.code pc = .ok (.ldc2_w index, 3)) (hp : pc + 3 = pc') (q : own_Go p e below Q T (mkF m pc' Ls (.long u :: rest))) : own_Go p e below Q T (mkF m pc Ls rest) := by
  subst hp; exact own_go (fun t k' => X.ldc2Long hx hown (mvT hZ w1) (g := mkF m pc Ls rest) rfl hd t k') q
theorem o_iadd (X : Stand p l e R s m args below meth c T locs cells slots) (hx : p.tables.exec = Jvm.exec) (hd : decode c.code pc = .ok (.iadd, 1)) (hp : pc + 1 = pc') {z : Int32} (hz : x + y = z) (q : own_Go p e below Q T (mkF m pc' Ls (.int z :: rest))) : own_Go p e below Q T (mkF m pc Ls (.int y :: .int x :: rest)) := by
  subst hp hz; exact own_go (fun t k' => XS.iadd X.here hx rfl hd rfl k') q
theorem o_isub (X : Stand p l e R s m args below meth c T locs cells slots) (hx : p.tables.exec = Jvm.exec) (hd : decode c.code pc = .ok (.isub, 1)) (hp : pc + 1 = pc') {z : Int32} (hz : x - y = z) (q : own_Go p e below Q T (mkF m pc' Ls (.int z :: rest))) : own_Go p e below Q T (mkF m pc Ls (.int y :: .int x :: rest)) := by
  subst hp hz; exact own_go (fun t k' => XS.isub X.here hx rfl hd rfl k') q
theorem o_imul (X : Stand p l e R s m args below meth c T locs cells slots) (hx : p.tables.exec = Jvm.exec) (hd : decode c.code pc = .ok (.imul, 1)) (hp : pc + 1 = pc') {z : Int32} (hz : x * y = z) (q : own_Go p e below Q T (mkF m pc' Ls (.int z :: rest))) : own_Go p e below Q T (mkF m pc Ls (.int y :: .int x :: rest)) := by
  subst hp hz; exact own_go (fun t k' => XS.imul X.here hx rfl hd rfl k') q
theorem o_iand (X : Stand p l e R s m args below meth c T locs cells slots) (hx : p.tables.exec = Jvm.exec) (hd : decode c.code pc = .ok (.iand, 1)) (hp : pc + 1 = pc') {z : Int32} (hz : x &&& y = z) (q : own_Go p e below Q T (mkF m pc' Ls (.int z :: rest))) : own_Go p e below Q T (mkF m pc Ls (.int y :: .int x :: rest)) := by
  subst hp hz; exact own_go (fun t k' => XS.iand X.here hx rfl hd rfl k') q
theorem o_ior (X : Stand p l e R s m args below meth c T locs cells slots) (hx : p.tables.exec = Jvm.exec) (hd : decode c.code pc = .ok (.ior, 1)) (hp : pc + 1 = pc') {z : Int32} (hz : x ||| y = z) (q : own_Go p e below Q T (mkF m pc' Ls (.int z :: rest))) : own_Go p e below Q T (mkF m pc Ls (.int y :: .int x :: rest)) := by
  subst hp hz; exact own_go (fun t k' => XS.ior X.here hx rfl hd rfl k') q
theorem o_ixor (X : Stand p l e R s m args below meth c T locs cells slots) (hx : p.tables.exec = Jvm.exec) (hd : decode c.code pc = .ok (.ixor, 1)) (hp : pc + 1 = pc') {z : Int32} (hz : x ^^^ y = z) (q : own_Go p e below Q T (mkF m pc' Ls (.int z :: rest))) : own_Go p e below Q T (mkF m pc Ls (.int y :: .int x :: rest)) := by
  subst hp hz; exact own_go (fun t k' => XS.ixor X.here hx rfl hd rfl k') q
/-- Java's shifts, remainders: under names of our own -/
def own_shl (x y : Int32) : Int32 := x <<< (y &&& 31)
def own_shr (x y : Int32) : Int32 := x >>> (y &&& 31)
def own_ushr (x y : Int32) : Int32 := (x.toUInt32 >>> (y &&& 31).toUInt32).toInt32
def own_rem (x y : Int32) : Int32 := x - (x / y) * y
def own_lshl (u : Int64) (y : Int32) : Int64 := u <<< (y &&& 0x3f).toInt64
def own_lushr (u : Int64) (y : Int32) : Int64 := (u.toUInt64 >>> (y &&& 0x3f).toInt64.toUInt64).toInt64
def own_lrem (u w : Int64) : Int64 := u - (u / w) * w
theorem o_ishl (X : Stand p l e R s m args below meth c T locs cells slots) (hx : p.tables.exec = Jvm.exec) (hd : decode c.code pc = .ok (.ishl, 1)) (hp : pc + 1 = pc') {z : Int32} (hz : own_shl x y = z) (q : own_Go p e below Q T (mkF m pc' Ls (.int z :: rest))) : own_Go p e below Q T (mkF m pc Ls (.int y :: .int x :: rest)) := by
  subst hp hz; exact own_go (fun t k' => XS.ishl X.here hx rfl hd rfl k') q
theorem o_ishr (X : Stand p l e R s m args below meth c T locs cells slots) (hx : p.tables.exec = Jvm.exec) (hd : decode c.code pc = .ok (.ishr, 1)) (hp : pc + 1 = pc') {z : Int32} (hz : own_shr x y = z) (q : own_Go p e below Q T (mkF m pc' Ls (.int z :: rest))) : own_Go p e below Q T (mkF m pc Ls (.int y :: .int x :: rest)) := by
  subst hp hz; exact own_go (fun t k' => XS.ishr X.here hx rfl hd rfl k') q
theorem o_iushr (X : Stand p l e R s m args below meth c T locs cells slots) (hx : p.tables.exec = Jvm.exec) (hd : decode c.code pc = .ok (.iushr, 1)) (hp : pc + 1 = pc') {z : Int32} (hz : own_ushr x y = z) (q : own_Go p e below Q T (mkF m pc' Ls (.int z :: rest))) : own_Go p e below Q T (mkF m pc Ls (.int y :: .int x :: rest)) := by
  subst hp hz; exact own_go (fun t k' => XS.iushr X.here hx rfl hd rfl k') q
theorem o_irem (X : Stand p l e R s m args below meth c T locs cells slots) (hx : p.tables.exec = Jvm.exec) (hd : decode c.code pc = .ok (.irem, 1)) (hp : pc + 1 = pc') (hy : y ≠ 0) {z : Int32} (hz : own_rem x y = z) (q : own_Go p e below Q T (mkF m pc' Ls (.int z :: rest))) : own_Go p e below Q T (mkF m pc Ls (.int y :: .int x :: rest)) := by
  subst hp hz; exact own_go (fun t k' => XS.irem X.here hx rfl hd rfl hy k') q
theorem o_idiv (X : Stand p l e R s m args below meth c T locs cells slots) (hx : p.tables.exec = Jvm.exec) (hd : decode c.code pc = .ok (.idiv, 1)) (hp : pc + 1 = pc') (hy : y ≠ 0) {z : Int32} (hz : x / y = z) (q : own_Go p e below Q T (mkF m pc' Ls (.int z :: rest))) : own_Go p e below Q T (mkF m pc Ls (.int y :: .int x :: rest)) := by
  subst hp hz; exact own_go (fun t k' => XS.idiv X.here hx rfl hd rfl hy k') q
theorem o_ineg (X : Stand p l e R s m args below meth c T locs cells slots) (hx : p.tables.exec = Jvm.exec) (hd : decode c.code pc = .ok (.ineg, 1)) (hp : pc + 1 = pc') {z : Int32} (hz : -x = z) (q : own_Go p e below Q T (mkF m pc' Ls (.int z :: rest))) : own_Go p e below Q T (mkF m pc Ls (.int x :: rest)) := by
  subst hp hz; exact own_go (fun t k' => XS.ineg X.here hx rfl hd rfl k') q
theorem o_ladd (X : Stand p l e R s m args below meth c T locs cells slots) (hx : p.tables.exec = Jvm.exec) (hd : decode c.code pc = .ok (.ladd, 1)) (hp : pc + 1 = pc') {z : Int64} (hz : u + w = z) (q : own_Go p e below Q T (mkF m pc' Ls (.long z :: rest))) : own_Go p e below Q T (mkF m pc Ls (.long w :: .long u :: rest)) := by
  subst hp hz; exact own_go (fun t k' => XS.ladd X.here hx rfl hd rfl k') q
theorem o_lsub (X : Stand p l e R s m args below meth c T locs cells slots) (hx : p.tables.exec = Jvm.exec) (hd : decode c.code pc = .ok (.lsub, 1)) (hp : pc + 1 = pc') {z : Int64} (hz : u - w = z) (q : own_Go p e below Q T (mkF m pc' Ls (.long z :: rest))) : own_Go p e below Q T (mkF m pc Ls (.long w :: .long u :: rest)) := by
  subst hp hz; exact own_go (fun t k' => XS.lsub X.here hx rfl hd rfl k') q
theorem o_lmul (X : Stand p l e R s m args below meth c T locs cells slots) (hx : p.tables.exec = Jvm.exec) (hd : decode c.code pc = .ok (.lmul, 1)) (hp : pc + 1 = pc') {z : Int64} (hz : u * w = z) (q : own_Go p e below Q T (mkF m pc' Ls (.long z :: rest))) : own_Go p e below Q T (mkF m pc Ls (.long w :: .long u :: rest)) := by
  subst hp hz; exact own_go (fun t k' => XS.lmul X.here hx rfl hd rfl k') q
theorem o_land (X : Stand p l e R s m args below meth c T locs cells slots) (hx : p.tables.exec = Jvm.exec) (hd : decode c.code pc = .ok (.land, 1)) (hp : pc + 1 = pc') {z : Int64} (hz : u &&& w = z) (q : own_Go p e below Q T (mkF m pc' Ls (.long z :: rest))) : own_Go p e below Q T (mkF m pc Ls (.long w :: .long u :: rest)) := by
  subst hp hz; exact own_go (fun t k' => XS.land X.here hx rfl hd rfl k') q
theorem o_lor (X : Stand p l e R s m args below meth c T locs cells slots) (hx : p.tables.exec = Jvm.exec) (hd : decode c.code pc = .ok (.lor, 1)) (hp : pc + 1 = pc') {z : Int64} (hz : u ||| w = z) (q : own_Go p e below Q T (mkF m pc' Ls (.long z :: rest))) : own_Go p e below Q T (mkF m pc Ls (.long w :: .long u :: rest)) := by
  subst hp hz; exact own_go (fun t k' => XS.lor X.here hx rfl hd rfl k') q
theorem o_lxor (X : Stand p l e R s m args below meth c T locs cells slots) (hx : p.tables.exec = Jvm.exec) (hd : decode c.code pc = .ok (.lxor, 1)) (hp : pc + 1 = pc') {z : Int64} (hz : u ^^^ w = z) (q : own_Go p e below Q T (mkF m pc' Ls (.long z :: rest))) : own_Go p e below Q T (mkF m pc Ls (.long w :: .long u :: rest)) := by
  subst hp hz; exact own_go (fun t k' => XS.lxor X.here hx rfl hd rfl k') q
theorem o_lshl (X : Stand p l e R s m args below meth c T locs cells slots) (hx : p.tables.exec = Jvm.exec) (hd : decode c.code pc = .ok (.lshl, 1)) (hp : pc + 1 = pc') {z : Int64} (hz : own_lshl u y = z) (q : own_Go p e below Q T (mkF m pc' Ls (.long z :: rest))) : own_Go p e below Q T (mkF m pc Ls (.int y :: .long u :: rest)) := by
  subst hp hz; exact own_go (fun t k' => XS.lshl X.here hx rfl hd rfl k') q
theorem o_lushr (X : Stand p l e R s m args below meth c T locs cells slots) (hx : p.tables.exec = Jvm.exec) (hd : decode c.code pc = .ok (.lushr, 1)) (hp : pc + 1 = pc') {z : Int64} (hz : own_lushr u y = z) (q : own_Go p e below Q T (mkF m pc' Ls (.long z :: rest))) : own_Go p e below Q T (mkF m pc Ls (.int y :: .long u :: rest)) := by
  subst hp hz; exact own_go (fun t k' => XS.lushr X.here hx rfl hd rfl k') q
theorem o_ldiv (X : Stand p l e R s m args below meth c T locs cells slots) (hx : p.tables.exec = Jvm.exec) (hd : decode c.code pc = .ok (.ldiv, 1)) (hp : pc + 1 = pc') (hy : w ≠ 0) {z : Int64} (hz : u / w = z) (q : own_Go p e below Q T (mkF m pc' Ls (.long z :: rest))) : own_Go p e below Q T (mkF m pc Ls (.long w :: .long u :: rest)) := by
  subst hp hz; exact own_go (fun t k' => XS.ldiv X.here hx rfl hd rfl hy k') q
theorem o_lrem (X : Stand p l e R s m args below meth c T locs cells slots) (hx : p.tables.exec = Jvm.exec) (hd : decode c.code pc = .ok (.lrem, 1)) (hp : pc + 1 = pc') (hy : w ≠ 0) {z : Int64} (hz : own_lrem u w = z) (q : own_Go p e below Q T (mkF m pc' Ls (.long z :: rest))) : own_Go p e below Q T (mkF m pc Ls (.long w :: .long u :: rest)) := by
  subst hp hz; exact own_go (fun t k' => XS.lrem X.here hx rfl hd rfl hy k') q
theorem o_i2l (X : Stand p l e R s m args below meth c T locs cells slots) (hx : p.tables.exec = Jvm.exec) (hd : decode c.code pc = .ok (.i2l, 1)) (hp : pc + 1 = pc') {z : Int64} (hz : x.toInt64 = z) (q : own_Go p e below Q T (mkF m pc' Ls (.long z :: rest))) : own_Go p e below Q T (mkF m pc Ls (.int x :: rest)) := by
  subst hp hz; exact own_go (fun t k' => XS.i2l X.here hx rfl hd rfl k') q
theorem o_l2i (X : Stand p l e R s m args below meth c T locs cells slots) (hx : p.tables.exec = Jvm.exec) (hd : decode c.code pc = .ok (.l2i, 1)) (hp : pc + 1 = pc') {z : Int32} (hz : u.toInt32 = z) (q : own_Go p e below Q T (mkF m pc' Ls (.int z :: rest))) : own_Go p e below Q T (mkF m pc Ls (.long u :: rest)) := by
  subst hp hz; exact own_go (fun t k' => XS.l2i X.here hx rfl hd rfl k') q
def own_i2b (x : Int32) : Int32 := x.toInt8.toInt32
def own_i2c (x : Int32) : Int32 := x.toUInt32.toUInt16.toUInt32.toInt32
theorem o_i2b (X : Stand p l e R s m args below meth c T locs cells slots) (hx : p.tables.exec = Jvm.exec) (hd : decode c.code pc = .ok (.i2b, 1)) (hp : pc + 1 = pc') {z : Int32} (hz : own_i2b x = z) (q : own_Go p e below Q T (mkF m pc' Ls (.int z :: rest))) : own_Go p e below Q T (mkF m pc Ls (.int x :: rest)) := by
  subst hp hz; exact own_go (fun t k' => XS.i2b X.here hx rfl hd rfl k') q
theorem o_i2c (X : Stand p l e R s m args below meth c T locs cells slots) (hx : p.tables.exec = Jvm.exec) (hd : decode c.code pc = .ok (.i2c, 1)) (hp : pc + 1 = pc') {z : Int32} (hz : own_i2c x = z) (q : own_Go p e below Q T (mkF m pc' Ls (.int z :: rest))) : own_Go p e below Q T (mkF m pc Ls (.int x :: rest)) := by
  subst hp hz; exact own_go (fun t k' => XS.i2c X.here hx rfl hd rfl k') q
theorem o_iinc (X : Stand p l e R s m args below meth c T locs cells slots) (hx : p.tables.exec = Jvm.exec) {k : Nat} {i : Int} (hd : decode c.code pc = .ok (.iinc k i, 3)) (hl : Ls[k]? = some (.val (.int x))) (hz : x + Int32.ofInt i = y) (hl' : storeLocals Ls k (.int y) = some l') (hp : pc + 3 = pc') (q : own_Go p e below Q T (mkF m pc' l' rest)) : own_Go p e below Q T (mkF m pc Ls rest) := by
  subst hp hz; exact own_go (fun t k' => XS.iinc X.here hx rfl hd hl hl' k') q
theorem o_dup (X : Stand p l e R s m args below meth c T locs cells slots) (hx : p.tables.exec = Jvm.exec) {v : Value} (hd : decode c.code pc = .ok (.dup, 1)) (hv : v.category = 1) (hp : pc + 1 = pc') (q : own_Go p e below Q T (mkF m pc' Ls (v :: v :: rest))) : own_Go p e below Q T (mkF m pc Ls (v :: rest)) := by
  subst hp; exact own_go (fun t k' => XS.dup X.here hx rfl hd rfl hv k') q
theorem o_pop (X : Stand p l e R s m args below meth c T locs cells slots) (hx : p.tables.exec = Jvm.exec) {v : Value} (hd : decode c.code pc = .ok (.pop, 1)) (hv : v.category = 1) (hp : pc + 1 = pc') (q : own_Go p e below Q T (mkF m pc' Ls rest)) : own_Go p e below Q T (mkF m pc Ls (v :: rest)) := by
  subst hp; exact own_go (fun t k' => XS.pop X.here hx rfl hd rfl hv k') q
theorem o_goto (X : Stand p l e R s m args below meth c T locs cells slots) (hx : p.tables.exec = Jvm.exec) {o : Int} (hd : decode c.code pc = .ok (.goto o, 3)) (ho : 0 ≤ (pc : Int) + o) (hp : ((pc : Int) + o).toNat = pc') (q : own_Go p e below Q T (mkF m pc' Ls rest)) : own_Go p e below Q T (mkF m pc Ls rest) :=
  own_go (fun t k' => XS.goto X.here hx rfl rfl hd ho hp k') q
theorem o_ifP (X : Stand p l e R s m args below meth c T locs cells slots) (hx : p.tables.exec = Jvm.exec) {cd : ClassFile.Cond} {o : Int} {P : Prop} [Decidable P] (hP : P → ifCond.holds cd x = true) (hN : ¬ P → ifCond.holds cd x = false) (hd : decode c.code pc = .ok (.ifCond cd o, 3)) (ho : 0 ≤ (pc : Int) + o) (hp : ((pc : Int) + o).toNat = pc1) (hp2 : pc + 3 = pc2)
    (kt : P → own_Go p e below Q T (mkF m pc1 Ls rest)) (kf : ¬ P → own_Go p e below Q T (mkF m pc2 Ls rest)) : own_Go p e below Q T (mkF m pc Ls (.int x :: rest)) := by
  subst hp2
  by_cases q : P
  · exact own_go (fun t k' => XS.ifYes X.here hx rfl rfl hd rfl (hP q) ho hp k') (kt q)
  · exact own_go (fun t k' => XS.ifNo X.here hx rfl hd rfl (hN q) k') (kf q)
theorem o_ifN (X : Stand p l e R s m args below meth c T locs cells slots) (hx : p.tables.exec = Jvm.exec) {cd : ClassFile.Cond} {o : Int} {P : Prop} [Decidable P] (hP : P → ifCond.holds cd x = false) (hN : ¬ P → ifCond.holds cd x = true) (hd : decode c.code pc = .ok (.ifCond cd o, 3)) (ho : 0 ≤ (pc : Int) + o) (hp : ((pc : Int) + o).toNat = pc1) (hp2 : pc + 3 = pc2)
    (kt : ¬ P → own_Go p e below Q T (mkF m pc1 Ls rest)) (kf : P → own_Go p e below Q T (mkF m pc2 Ls rest)) : own_Go p e below Q T (mkF m pc Ls (.int x :: rest)) := by
  subst hp2
  by_cases q : P
  · exact own_go (fun t k' => XS.ifNo X.here hx rfl hd rfl (hP q) k') (kf q)
  · exact own_go (fun t k' => XS.ifYes X.here hx rfl rfl hd rfl (hN q) ho hp k') (kt q)
theorem o_icP (X : Stand p l e R s m args below meth c T locs cells slots) (hx : p.tables.exec = Jvm.exec) {cd : ClassFile.Cond} {o : Int} {P : Prop} [Decidable P] (hP : P → if_icmp.holds cd x y = true) (hN : ¬ P → if_icmp.holds cd x y = false) (hd : decode c.code pc = .ok (.if_icmp cd o, 3)) (ho : 0 ≤ (pc : Int) + o) (hp : ((pc : Int) + o).toNat = pc1) (hp2 : pc + 3 = pc2)
    (kt : P → own_Go p e below Q T (mkF m pc1 Ls rest)) (kf : ¬ P → own_Go p e below Q T (mkF m pc2 Ls rest)) : own_Go p e below Q T (mkF m pc Ls (.int y :: .int x :: rest)) := by
  subst hp2
  by_cases q : P
  · exact own_go (fun t k' => XS.icmpYes X.here hx rfl rfl hd rfl (hP q) ho hp k') (kt q)
  · exact own_go (fun t k' => XS.icmpNo X.here hx rfl hd rfl (hN q) k') (kf q)
theorem o_icN (X : Stand p l e R s m args below meth c T locs cells slots) (hx : p.tables.exec = Jvm.exec) {cd : ClassFile.Cond} {o : Int} {P : Prop} [Decidable P] (hP : P → if_icmp.holds cd x y = false) (hN : ¬ P → if_icmp.holds cd x y = true) (hd : decode c.code pc = .ok (.if_icmp cd o, 3)) (ho : 0 ≤ (pc : Int) + o) (hp : ((pc : Int) + o).toNat = pc1) (hp2 : pc + 3 = pc2)
    (kt : ¬ P → own_Go p e below Q T (mkF m pc1 Ls rest)) (kf : P → own_Go p e below Q T (mkF m pc2 Ls rest)) : own_Go p e below Q T (mkF m pc Ls (.int y :: .int x :: rest)) := by
  subst hp2
  by_cases q : P
  · exact own_go (fun t k' => XS.icmpNo X.here hx rfl hd rfl (hP q) k') (kf q)
  · exact own_go (fun t k' => XS.icmpYes X.here hx rfl rfl hd rfl (hN q) ho hp k') (kt q)
/-- a branch that goes one way for sure -/
theorem o_ifY (X : Stand p l e R s m args below meth c T locs cells slots) (hx : p.tables.exec = Jvm.exec) {cd : ClassFile.Cond} {o : Int} (hc : ifCond.holds cd x = true) (hd : decode c.code pc = .ok (.ifCond cd o, 3)) (ho : 0 ≤ (pc : Int) + o) (hp : ((pc : Int) + o).toNat = pc') (q : own_Go p e below Q T (mkF m pc' Ls rest)) : own_Go p e below Q T (mkF m pc Ls (.int x :: rest)) :=
  own_go (fun t k' => XS.ifYes X.here hx rfl rfl hd rfl hc ho hp k') q
theorem o_ifX (X : Stand p l e R s m args below meth c T locs cells slots) (hx : p.tables.exec = Jvm.exec) {cd : ClassFile.Cond} {o : Int} (hc : ifCond.holds cd x = false) (hd : decode c.code pc = .ok (.ifCond cd o, 3)) (hp : pc + 3 = pc') (q : own_Go p e below Q T (mkF m pc' Ls rest)) : own_Go p e below Q T (mkF m pc Ls (.int x :: rest)) := by
  subst hp; exact own_go (fun t k' => XS.ifNo X.here hx rfl hd rfl hc k') q
theorem o_icY (X : Stand p l e R s m args below meth c T locs cells slots) (hx : p.tables.exec = Jvm.exec) {cd : ClassFile.Cond} {o : Int} (hc : if_icmp.holds cd x y = true) (hd : decode c.code pc = .ok (.if_icmp cd o, 3)) (ho : 0 ≤ (pc : Int) + o) (hp : ((pc : Int) + o).toNat = pc') (q : own_Go p e below Q T (mkF m pc' Ls rest)) : own_Go p e below Q T (mkF m pc Ls (.int y :: .int x :: rest)) :=
  own_go (fun t k' => XS.icmpYes X.here hx rfl rfl hd rfl hc ho hp k') q
theorem o_icX (X : Stand p l e R s m args below meth c T locs cells slots) (hx : p.tables.exec = Jvm.exec) {cd : ClassFile.Cond} {o : Int} (hc : if_icmp.holds cd x y = false) (hd : decode c.code pc = .ok (.if_icmp cd o, 3)) (hp : pc + 3 = pc') (q : own_Go p e below Q T (mkF m pc' Ls rest)) : own_Go p e below Q T (mkF m pc Ls (.int y :: .int x :: rest)) := by
  subst hp; exact own_go (fun t k' => XS.icmpNo X.here hx rfl hd rfl hc k') q
theorem o_lcmp (X : Stand p l e R s m args below meth c T locs cells slots) (hx : p.tables.exec = Jvm.exec) (hd : decode c.code pc = .ok (.lcmp, 1)) (hp : pc + 1 = pc') (q : own_Go p e below Q T (mkF m pc' Ls (.int (XT.cmpL u w) :: rest))) : own_Go p e below Q T (mkF m pc Ls (.long w :: .long u :: rest)) := by
  subst hp; exact own_go (fun t k' => XS.lcmp X.here hx rfl hd rfl k') q
theorem o_ifnullX (X : Stand p l e R s m args below meth c T locs cells slots) (hx : p.tables.exec = Jvm.exec) {o : Int} {a : Addr} (hd : decode c.code pc = .ok (.ifnull o, 3)) (hp : pc + 3 = pc') (q : own_Go p e below Q T (mkF m pc' Ls rest)) : own_Go p e below Q T (mkF m pc Ls (.ref a :: rest)) := by
  subst hp; exact own_go (fun t k' => XS.ifnullNo X.here hx rfl hd rfl k') q
/-- the ends -/
theorem o_ret (X : Stand p l e R s m args below meth c T locs cells slots) {v : Option Value} {g : JFrame} (hv : meth.sig.returnType = none → v = none) (hlk : meth.locks = false) (hc : cells ≤ cc) (hs : slots ≤ ss) (eT : T.heap = h) (hK : K v h locs)
    (st : ∀ fs : List Frame, (∀ (f : JFrame) (acts : List Action), f.method = m → f.locked = none → f.entered = [] → (doReturn e (T.setTop f) acts v).1 = T.setFrames fs) → Steps p.tables e below (T.setTop g) (T.setFrames fs)) : own_Go p e below (own_Q s K cc ss) T g := by
  subst eT
  obtain ⟨fs, hr, hrun, hended, hW, hsame⟩ := X.leave (v := v) hv hlk
  exact ⟨_, _, st fs hr, hrun, hended, _, _, rfl, hK, ⟨_, rfl⟩, hW, hsame.mono hc hs⟩
theorem o_retV (X : Stand p l e R s m args below meth c T locs cells slots) (hx : p.tables.exec = Jvm.exec) (hret : meth.sig.returnType = none) (hlk : meth.locks = false) (hd : decode c.code pc = .ok (.return_, 1)) (hc : cells ≤ cc) (hs : slots ≤ ss) (eT : T.heap = h) (hK : K none h locs) : own_Go p e below (own_Q s K cc ss) T (mkF m pc Ls []) :=
  o_ret X (fun _ => rfl) hlk hc hs eT hK fun fs hr => X.returnOut hx hret hd hr
theorem o_retI (X : Stand p l e R s m args below meth c T locs cells slots) (hx : p.tables.exec = Jvm.exec) (hret : meth.sig.returnType = some .int) (hlk : meth.locks = false) (hd : decode c.code pc = .ok (.ireturn, 1)) (hc : cells ≤ cc) (hs : slots ≤ ss) (eT : T.heap = h) (hK : K (some (.int x)) h locs) : own_Go p e below (own_Q s K cc ss) T (mkF m pc Ls (.int x :: rest)) :=
  o_ret X (fun h => by rw [hret] at h; cases h) hlk hc hs eT hK fun fs hr => retI X hx hret hd hr
theorem o_retN (X : Stand p l e R s m args below meth c T locs cells slots) (hx : p.tables.exec = Jvm.exec) {t : FieldType} (hret : meth.sig.returnType = some t) (ht : t = .boolean ∨ t = .byte ∨ t = .char ∨ t = .short) (hlk : meth.locks = false) (hd : decode c.code pc = .ok (.ireturn, 1)) (hc : cells ≤ cc) (hs : slots ≤ ss) (eT : T.heap = h) (hK : K (some (.int (nar t x))) h locs) : own_Go p e below (own_Q s K cc ss) T (mkF m pc Ls (.int x :: rest)) :=
  o_ret X (fun h => by rw [hret] at h; cases h) hlk hc hs eT hK fun fs hr => retN X hx hret ht hd hr
theorem o_retL (X : Stand p l e R s m args below meth c T locs cells slots) (hx : p.tables.exec = Jvm.exec) (hret : meth.sig.returnType = some .long) (hlk : meth.locks = false) (hd : decode c.code pc = .ok (.lreturn, 1)) (hc : cells ≤ cc) (hs : slots ≤ ss) (eT : T.heap = h) (hK : K (some (.long u)) h locs) : own_Go p e below (own_Q s K cc ss) T (mkF m pc Ls (.long u :: rest)) :=
  o_ret X (fun h => by rw [hret] at h; cases h) hlk hc hs eT hK fun fs hr => by
    jvm_step X.here [X.here.top, hx, hd, X.method', hret, narrow]
    first | (intro acts; rw [hr _ acts rfl rfl rfl]) | rw [hr _ _ rfl rfl rfl]
    exact Steps.refl _
theorem o_retA (X : Stand p l e R s m args below meth c T locs cells slots) (hx : p.tables.exec = Jvm.exec) {t : FieldType} (hret : meth.sig.returnType = some (.array t)) (hlk : meth.locks = false) {a : Addr} (hd : decode c.code pc = .ok (.areturn, 1)) (hc : cells ≤ cc) (hs : slots ≤ ss) (eT : T.heap = h) (hK : K (some (.ref a)) h locs) : own_Go p e below (own_Q s K cc ss) T (mkF m pc Ls (.ref a :: rest)) :=
  o_ret X (fun h => by rw [hret] at h; cases h) hlk hc hs eT hK fun fs hr => by
    jvm_step X.here [X.here.top, hx, hd, X.method', hret, Value.isRef, FieldType.isReference]
    first | (intro acts; rw [hr _ acts rfl rfl rfl]) | rw [hr _ _ rfl rfl rfl]
    exact Steps.refl _
/-- arrays as lists -/
def own_AI (Z : State) (h : Heap) (a : Addr) (ty : FieldType) (vs : List Int32) : Prop := ∃ cl : Cell, Arr Z h a cl ty ∧ cl.slots = (vs.map Value.int).toArray
def own_AJ (Z : State) (h : Heap) (a : Addr) (vs : List Int64) : Prop := ∃ cl : Cell, Arr Z h a cl .long ∧ cl.slots = (vs.map Value.long).toArray
def own_in (n : Nat) (j : Int32) : Prop := ¬ j < 0 ∧ j.toNatClampNeg < n
def own_get (vs : List Int32) (j : Int32) : Int32 := vs.getD j.toNatClampNeg 0
def own_getL (vs : List Int64) (j : Int32) : Int64 := vs.getD j.toNatClampNeg 0
def own_set (vs : List Int32) (j x : Int32) : List Int32 := vs.set j.toNatClampNeg x
def own_setL (vs : List Int64) (j : Int32) (u : Int64) : List Int64 := vs.set j.toNatClampNeg u
theorem own_AI.lt {a : Addr} {ty : FieldType} {vs : List Int32} (A : own_AI Z h a ty vs) : a < h.size := by obtain ⟨cl, A, -⟩ := A; exact A.lt
theorem own_AI.ext {a : Addr} {ty : FieldType} {vs : List Int32} (A : own_AI Z h a ty vs) (E : Ext h h') : own_AI Z h' a ty vs := by obtain ⟨cl, A, q⟩ := A; exact ⟨cl, A.ext E, q⟩
theorem own_AI.other {a b : Addr} {ty : FieldType} {vs : List Int32} {sl : Nat} {v : Value} (A : own_AI Z h a ty vs) (W : Wr h h' b sl v) (ne : a ≠ b) : own_AI Z h' a ty vs := by obtain ⟨cl, A, q⟩ := A; exact ⟨cl, A.other W ne, q⟩
theorem own_AI.keep {a : Addr} {ty : FieldType} {vs : List Int32} {ws : List Addr} (A : own_AI Z h a ty vs) (K : Keep h h' ws) (ne : a ∉ ws) : own_AI Z h' a ty vs := by obtain ⟨cl, A, q⟩ := A; exact ⟨cl, ⟨K.2.1 a cl A.1 ne, A.2⟩, q⟩
theorem own_AI.put {a : Addr} {ty : FieldType} {vs : List Int32} {j : Int32} (A : own_AI Z h a ty vs) (W : Wr h h' a j.toNatClampNeg (.int x)) : own_AI Z h' a ty (own_set vs j x) := by
  obtain ⟨cl, A, q⟩ := A
  refine ⟨_, A.same W, ?_⟩
  show cl.slots.setIfInBounds _ _ = _
  rw [q, own_set, List.map_set, List.setIfInBounds_toArray]
theorem own_AJ.lt {a : Addr} {vs : List Int64} (A : own_AJ Z h a vs) : a < h.size := by obtain ⟨cl, A, -⟩ := A; exact A.lt
theorem own_AJ.ext {a : Addr} {vs : List Int64} (A : own_AJ Z h a vs) (E : Ext h h') : own_AJ Z h' a vs := by obtain ⟨cl, A, q⟩ := A; exact ⟨cl, A.ext E, q⟩
theorem own_AJ.other {a b : Addr} {vs : List Int64} {sl : Nat} {v : Value} (A : own_AJ Z h a vs) (W : Wr h h' b sl v) (ne : a ≠ b) : own_AJ Z h' a vs := by obtain ⟨cl, A, q⟩ := A; exact ⟨cl, A.other W ne, q⟩
theorem own_AJ.keep {a : Addr} {vs : List Int64} {ws : List Addr} (A : own_AJ Z h a vs) (K : Keep h h' ws) (ne : a ∉ ws) : own_AJ Z h' a vs := by obtain ⟨cl, A, q⟩ := A; exact ⟨cl, ⟨K.2.1 a cl A.1 ne, A.2⟩, q⟩
theorem own_AJ.put {a : Addr} {vs : List Int64} {j : Int32} (A : own_AJ Z h a vs) (W : Wr h h' a j.toNatClampNeg (.long u)) : own_AJ Z h' a (own_setL vs j u) := by
  obtain ⟨cl, A, q⟩ := A
  refine ⟨_, A.same W, ?_⟩
  show cl.slots.setIfInBounds _ _ = _
  rw [q, own_setL, List.map_set, List.setIfInBounds_toArray]
theorem own_inA {n : Nat} {j : Int32} {cl : Cell} (hj : own_in n j) (hn : cl.slots.size = n) : ¬ (j < 0 ∨ cl.slots.size ≤ j.toNatClampNeg) := fun q => q.elim hj.1 fun q => by rw [hn] at q; exact Nat.not_lt.mpr q hj.2
theorem own_szI {cl : Cell} {vs : List Int32} (q : cl.slots = (vs.map Value.int).toArray) : cl.slots.size = vs.length := by rw [q]; simp
theorem own_szJ {cl : Cell} {vs : List Int64} (q : cl.slots = (vs.map Value.long).toArray) : cl.slots.size = vs.length := by rw [q]; simp
theorem own_atI {cl : Cell} {vs : List Int32} {j : Int32} (q : cl.slots = (vs.map Value.int).toArray) (hj : own_in vs.length j) : cl.slots[j.toNatClampNeg]? = some (.int (own_get vs j)) := by
  rw [q, List.getElem?_toArray, List.getElem?_map, List.getElem?_eq_getElem hj.2, own_get, List.getD_eq_getElem?_getD, List.getElem?_eq_getElem hj.2]; rfl
theorem own_atJ {cl : Cell} {vs : List Int64} {j : Int32} (q : cl.slots = (vs.map Value.long).toArray) (hj : own_in vs.length j) : cl.slots[j.toNatClampNeg]? = some (.long (own_getL vs j)) := by
  rw [q, List.getElem?_toArray, List.getElem?_map, List.getElem?_eq_getElem hj.2, own_getL, List.getD_eq_getElem?_getD, List.getElem?_eq_getElem hj.2]; rfl
theorem o_iaload (X : Stand p l e R s m args below meth c T locs cells slots) (hx : p.tables.exec = Jvm.exec) (hZ : Z.Warmed39 s.vm) (eT : T.heap = h) {a : Addr} {vs : List Int32} {j : Int32} (A : own_AI Z h a .int vs) (hj : own_in vs.length j) (hd : decode c.code pc = .ok (.iaload, 1)) (hp : pc + 1 = pc') (hv : own_get vs j = x) (q : own_Go p e below Q T (mkF m pc' Ls (.int x :: rest))) : own_Go p e below Q T (mkF m pc Ls (.int j :: .ref a :: rest)) := by
  subst hp hv
  obtain ⟨cl, A, qs⟩ := A
  exact own_go (fun t k' => X.iaload hx (by rw [eT]; exact A.1) (State.isArrayOf_alike hZ.alike A.2.1) A.2.2 (own_inA hj (own_szI qs)) (own_atI qs hj) (g := mkF m pc Ls (.int j :: .ref a :: rest)) rfl rfl hd t k') q
theorem o_baload (X : Stand p l e R s m args below meth c T locs cells slots) (hx : p.tables.exec = Jvm.exec) (hZ : Z.Warmed39 s.vm) (eT : T.heap = h) {a : Addr} {vs : List Int32} {j : Int32} (A : own_AI Z h a .byte vs) (hj : own_in vs.length j) (hd : decode c.code pc = .ok (.baload, 1)) (hp : pc + 1 = pc') (hv : own_get vs j = x) (q : own_Go p e below Q T (mkF m pc' Ls (.int x :: rest))) : own_Go p e below Q T (mkF m pc Ls (.int j :: .ref a :: rest)) := by
  subst hp hv
  obtain ⟨cl, A, qs⟩ := A
  exact own_go (fun t k' => X.baloadBytes hx (by rw [eT]; exact A.1) (State.isArrayOf_alike hZ.alike A.2.1) A.2.2 (own_inA hj (own_szI qs)) (own_atI qs hj) (g := mkF m pc Ls (.int j :: .ref a :: rest)) rfl rfl hd t k') q
theorem o_laload (X : Stand p l e R s m args below meth c T locs cells slots) (hx : p.tables.exec = Jvm.exec) (hZ : Z.Warmed39 s.vm) (eT : T.heap = h) {a : Addr} {vs : List Int64} {j : Int32} (A : own_AJ Z h a vs) (hj : own_in vs.length j) (hd : decode c.code pc = .ok (.laload, 1)) (hp : pc + 1 = pc') (hv : own_getL vs j = u) (q : own_Go p e below Q T (mkF m pc' Ls (.long u :: rest))) : own_Go p e below Q T (mkF m pc Ls (.int j :: .ref a :: rest)) := by
  subst hp hv
  obtain ⟨cl, A, qs⟩ := A
  exact own_go (fun t k' => X.laload hx (by rw [eT]; exact A.1) (State.isArrayOf_alike hZ.alike A.2.1) A.2.2 (own_inA hj (own_szJ qs)) (own_atJ qs hj) (g := mkF m pc Ls (.int j :: .ref a :: rest)) rfl rfl hd t k') q
/-- the length as arraylength pushes it -/
def own_len (n : Nat) : Int32 := n.toInt32
theorem o_alenI (X : Stand p l e R s m args below meth c T locs cells slots) (hx : p.tables.exec = Jvm.exec) (hZ : Z.Warmed39 s.vm) (eT : T.heap = h) {a : Addr} {ty : FieldType} {vs : List Int32} (A : own_AI Z h a ty vs) (hd : decode c.code pc = .ok (.arraylength, 1)) (hp : pc + 1 = pc') (hv : own_len vs.length = x) (q : own_Go p e below Q T (mkF m pc' Ls (.int x :: rest))) : own_Go p e below Q T (mkF m pc Ls (.ref a :: rest)) := by
  subst hp hv
  obtain ⟨cl, A, qs⟩ := A
  refine own_go (fun t k' => X.arraylength hx (by rw [eT]; exact A.1) (State.isArrayOf_alike hZ.alike A.2.1) (g := mkF m pc Ls (.ref a :: rest)) rfl rfl hd t k') ?_
  rw [own_szI qs]; exact q
theorem o_alenJ (X : Stand p l e R s m args below meth c T locs cells slots) (hx : p.tables.exec = Jvm.exec) (hZ : Z.Warmed39 s.vm) (eT : T.heap = h) {a : Addr} {vs : List Int64} (A : own_AJ Z h a vs) (hd : decode c.code pc = .ok (.arraylength, 1)) (hp : pc + 1 = pc') (hv : own_len vs.length = x) (q : own_Go p e below Q T (mkF m pc' Ls (.int x :: rest))) : own_Go p e below Q T (mkF m pc Ls (.ref a :: rest)) := by
  subst hp hv
  obtain ⟨cl, A, qs⟩ := A
  refine own_go (fun t k' => X.arraylength hx (by rw [eT]; exact A.1) (State.isArrayOf_alike hZ.alike A.2.1) (g := mkF m pc Ls (.ref a :: rest)) rfl rfl hd t k') ?_
  rw [own_szJ qs]; exact q
/-- stores: the place stays in locs -/
theorem o_iastore (X : Stand p l e R s m args below meth c T locs cells slots) (hx : p.tables.exec = Jvm.exec) (hZ : Z.Warmed39 s.vm) (eT : T.heap = h) {a : Addr} {vs vs' : List Int32} {j : Int32} (A : own_AI Z h a .int vs) (hj : own_in vs.length j) (hd : decode c.code pc = .ok (.iastore, 1)) (hp : pc + 1 = pc') (hv : own_set vs j x = vs')
    (k : ∀ T' h', Stand p l e R s m args below meth c T' (locs ++ [⟨a, j.toNatClampNeg⟩]) cells slots → T'.heap = h' → Wr h h' a j.toNatClampNeg (.int x) → own_AI Z h' a .int vs' → own_Go p e below Q T' (mkF m pc' Ls rest)) : own_Go p e below Q T (mkF m pc Ls (.int x :: .int j :: .ref a :: rest)) := by
  subst hp hv
  obtain ⟨cl, A', qs⟩ := id A
  obtain ⟨T', h', X', e', W, st⟩ := stI X hx hZ eT A' (own_inA hj (own_szI qs)) (g := mkF m pc Ls (.int x :: .int j :: .ref a :: rest)) rfl rfl hd
  exact own_go st (k T' h' X' e' W (A.put W))
theorem o_bastore (X : Stand p l e R s m args below meth c T locs cells slots) (hx : p.tables.exec = Jvm.exec) (hZ : Z.Warmed39 s.vm) (eT : T.heap = h) {a : Addr} {vs vs' : List Int32} {j : Int32} (A : own_AI Z h a .byte vs) (hj : own_in vs.length j) (hd : decode c.code pc = .ok (.bastore, 1)) (hp : pc + 1 = pc') (hv : own_set vs j (own_i2b x) = vs')
    (k : ∀ T' h', Stand p l e R s m args below meth c T' (locs ++ [⟨a, j.toNatClampNeg⟩]) cells slots → T'.heap = h' → Wr h h' a j.toNatClampNeg (.int (own_i2b x)) → own_AI Z h' a .byte vs' → own_Go p e below Q T' (mkF m pc' Ls rest)) : own_Go p e below Q T (mkF m pc Ls (.int x :: .int j :: .ref a :: rest)) := by
  subst hp hv
  obtain ⟨cl, A', qs⟩ := id A
  obtain ⟨T', h', X', e', W, st⟩ := stB X hx hZ eT A' (own_inA hj (own_szI qs)) (g := mkF m pc Ls (.int x :: .int j :: .ref a :: rest)) rfl rfl hd
  exact own_go st (k T' h' X' e' W (A.put W))
theorem o_lastore (X : Stand p l e R s m args below meth c T locs cells slots) (hx : p.tables.exec = Jvm.exec) (hZ : Z.Warmed39 s.vm) (eT : T.heap = h) {a : Addr} {vs vs' : List Int64} {j : Int32} (A : own_AJ Z h a vs) (hj : own_in vs.length j) (hd : decode c.code pc = .ok (.lastore, 1)) (hp : pc + 1 = pc') (hv : own_setL vs j u = vs')
    (k : ∀ T' h', Stand p l e R s m args below meth c T' (locs ++ [⟨a, j.toNatClampNeg⟩]) cells slots → T'.heap = h' → Wr h h' a j.toNatClampNeg (.long u) → own_AJ Z h' a vs' → own_Go p e below Q T' (mkF m pc' Ls rest)) : own_Go p e below Q T (mkF m pc Ls (.long u :: .int j :: .ref a :: rest)) := by
  subst hp hv
  obtain ⟨cl, A', qs⟩ := id A
  obtain ⟨T', h', X', e', W, st⟩ := stJ X hx hZ eT A' (own_inA hj (own_szJ qs)) (g := mkF m pc Ls (.long u :: .int j :: .ref a :: rest)) rfl rfl hd
  exact own_go st (k T' h' X' e' W (A.put W))
theorem own_sz (X : Stand p l e R s m args below meth c T locs cells slots) (eT : T.heap = h) : s.heap.size ≤ h.size := by
  have q := X.same.2.1
  rw [← eT]; exact q
/-- the place written lies in a cell made since the start: it needn't be told -/
theorem own_drop {a : Addr} {j : Nat} (X : Stand p l e R s m args below meth c T (locs ++ [⟨a, j⟩]) cells slots) (ha : s.heap.size ≤ a) : Stand p l e R s m args below meth c T locs cells slots := X.forget fun y hy => by cases List.mem_singleton.mp hy; exact ha
theorem own_dropL {L : List Loc} {k : Nat} (X : Stand p l e R s m args below meth c T (locs ++ L) cells slots) (ha : s.heap.size ≤ k) (hL : ∀ y ∈ L, k ≤ y.base) : Stand p l e R s m args below meth c T locs cells slots := X.forget fun y hy => Nat.le_trans ha (hL y hy)
/-- newarray -/
theorem o_newI (X : Stand p l e R s m args below meth c T locs cells slots) (hx : p.tables.exec = Jvm.exec) (hZ : Z.Warmed39 s.vm) (eT : T.heap = h) {aty : ArrayType} {ty : FieldType} (w1 : (Cond.arrayClass ty).before a0 Z = true) (hty : newarray.typeOf aty = ty) (hdv : defaultValue ty = .int 0) (hd : decode c.code pc = .ok (.newarray aty, 2)) (hp : pc + 2 = pc') (hn : ¬ x < 0) {cap : Nat} (hcap : x.toNatClampNeg ≤ cap) (hb : cap * 8 ≤ 536870912) (hc : cells + 1 ≤ R.cells) (hs : slots + cap ≤ R.slots) {vs : List Int32} (hv : List.replicate x.toNatClampNeg 0 = vs)
    (k : ∀ T' h' a, Stand p l e R s m args below meth c T' locs (cells + 1) (slots + cap) → T'.heap = h' → h.size = a → Ext h h' → own_AI Z h' a ty vs → own_Go p e below Q T' (mkF m pc' Ls (.ref a :: rest))) : own_Go p e below Q T (mkF m pc Ls (.int x :: rest)) := by
  subst hp hv hty
  obtain ⟨T', h', cA, X', e', E, A, st⟩ := newP X hx hZ w1 eT (g := mkF m pc Ls (.int x :: rest)) rfl hd rfl hn hcap hb hc hs
  exact own_go st (k T' h' _ X' e' rfl E ⟨_, A, by simp [newA, hdv]⟩)
theorem o_newJ (X : Stand p l e R s m args below meth c T locs cells slots) (hx : p.tables.exec = Jvm.exec) (hZ : Z.Warmed39 s.vm) (eT : T.heap = h) (w1 : (Cond.arrayClass .long).before a0 Z = true) (hd : decode c.code pc = .ok (.newarray .long, 2)) (hp : pc + 2 = pc') (hn : ¬ x < 0) {cap : Nat} (hcap : x.toNatClampNeg ≤ cap) (hb : cap * 8 ≤ 536870912) (hc : cells + 1 ≤ R.cells) (hs : slots + cap ≤ R.slots) {vs : List Int64} (hv : List.replicate x.toNatClampNeg 0 = vs)
    (k : ∀ T' h' a, Stand p l e R s m args below meth c T' locs (cells + 1) (slots + cap) → T'.heap = h' → h.size = a → Ext h h' → own_AJ Z h' a vs → own_Go p e below Q T' (mkF m pc' Ls (.ref a :: rest))) : own_Go p e below Q T (mkF m pc Ls (.int x :: rest)) := by
  subst hp hv
  obtain ⟨T', h', cA, X', e', E, A, st⟩ := newP X hx hZ (aty := .long) w1 eT (g := mkF m pc Ls (.int x :: rest)) rfl hd rfl hn hcap hb hc hs
  exact own_go st (k T' h' _ X' e' rfl E ⟨_, A, by simp [newA, show defaultValue (newarray.typeOf .long) = Value.long 0 from rfl]⟩)
/-- a static call by the callee's contract -/
theorem o_callS (X : Stand p l e R s m args below meth c T locs cells slots) (hx : p.tables.exec = Jvm.exec) (hZ : Z.Warmed39 s.vm) (eT : T.heap = h) {own : String} {index : Nat} {y : MethodName} {bytes : ByteArray} {maxL : Nat} {ret : Option FieldType} {rm : Room} {W : Nat} (hown : s.vm.findClass own = some m.cls)
    (w1 : (Cond.methodLink own index y).before a0 Z = true) (w2 : (Cond.static y).before a0 Z = true) (w3 : (Cond.initialized y.cls).before a0 Z = true) (w4 : (Cond.code y bytes maxL ret).before a0 Z = true) (hy : y.cls ≠ "java/lang/invoke/MethodHandle" ∧ y.cls ≠ "java/lang/invoke/VarHandle") {as' : Array Value} {K : Option Value → Heap → List Loc → Prop}
    (hM : MetFree l y (head1 [Cond.code y bytes maxL ret] rm) (fun a U => a = as' ∧ Z.Warmed39 U.vm ∧ U.heap = h) (fun _ _ _ _ _ => True) (fun _ U o U' => ∃ v L, o = .returned v ∧ K v U'.heap L ∧ FrameEnd U o U' L rm.cells rm.slots))
    (hf : rm.frames + 1 ≤ R.frames) (hl : W + (maxL + 11) + rm.locals ≤ R.locals) (hml : Ls.size = c.maxLocals) {argsL st : List Value} {sig : MethodDescriptor} (hpd : parseMethodDescriptor y.desc = some sig) (hlen : argsL.length = sig.parameters.length) (hst : st = argsL.reverse ++ rest) (has : argsL.toArray = as') (hW : (rest.map fun v => v.category).sum = W)
    (hd : decode c.code pc = .ok (.invokestatic index, 3)) (hp : pc + 3 = pc') (hc : cells + rm.cells ≤ R.cells) (hs : slots + rm.slots ≤ R.slots)
    (k : ∀ v T' L, Stand p l e R s m args below meth c T' (locs ++ L) (cells + rm.cells) (slots + rm.slots) → K v T'.heap L → own_Go p e below Q T' (mkF m pc' Ls (v.toList ++ rest))) : own_Go p e below Q T (mkF m pc Ls st) := by
  subst hp hst has
  obtain ⟨v, _, ⟨T1, L1, k1, n1⟩, -, X1, ⟨Lc, hQ, l1, y1, z1⟩, st1⟩ := Jvm.LawKit.callS X hx hown (mvT hZ w1) (mvT hZ w2) (mvT hZ w3) (mvT hZ w4) hy (backOf (W := W) hM hZ w4 w3 hf hl) (g := mkF m pc Ls (argsL.reverse ++ rest)) rfl hml (argsL := argsL) (rest := rest) (fun sg hsg => by cases hpd.symm.trans hsg; exact hlen) rfl (by show 2 * 0 + _ ≤ _; rw [hW]; omega) hd (fun _ _ => ⟨rfl, eT, hc, hs⟩)
  dsimp only [Pt.U, Pt.locs, Pt.cells, Pt.slots] at X1 l1 y1 z1 st1 hQ
  subst l1 y1 z1
  exact own_go st1 (k v T1 Lc X1 hQ)
/-- a body that writes nothing: what it returns, the heap as it was -/
def own_KP (V : Option Value) (h0 : Heap) : Option Value → Heap → List Loc → Prop := fun v h L => v = V ∧ h = h0 ∧ L = []
/-- a law: what it returns; nothing old is written -/
def own_KL (V : Option Value) : Option Value → Heap → List Loc → Prop := fun v _ L => v = V ∧ L = []
theorem o_callP (X : Stand p l e R s m args below meth c T locs cells slots) (hx : p.tables.exec = Jvm.exec) (hZ : Z.Warmed39 s.vm) (eT : T.heap = h) {own : String} {index : Nat} {y : MethodName} {bytes : ByteArray} {maxL : Nat} {ret : Option FieldType} {rm : Room} {W : Nat} (hown : s.vm.findClass own = some m.cls)
    (w1 : (Cond.methodLink own index y).before a0 Z = true) (w2 : (Cond.static y).before a0 Z = true) (w3 : (Cond.initialized y.cls).before a0 Z = true) (w4 : (Cond.code y bytes maxL ret).before a0 Z = true) (hy : y.cls ≠ "java/lang/invoke/MethodHandle" ∧ y.cls ≠ "java/lang/invoke/VarHandle") {as' : Array Value} {V : Option Value}
    (hM : MetFree l y (head1 [Cond.code y bytes maxL ret] rm) (fun a U => a = as' ∧ Z.Warmed39 U.vm ∧ U.heap = h) (fun _ _ _ _ _ => True) (fun _ U o U' => ∃ v L, o = .returned v ∧ own_KP V h v U'.heap L ∧ FrameEnd U o U' L rm.cells rm.slots))
    (hf : rm.frames + 1 ≤ R.frames) (hl : W + (maxL + 11) + rm.locals ≤ R.locals) (hml : Ls.size = c.maxLocals) {argsL st : List Value} {sig : MethodDescriptor} (hpd : parseMethodDescriptor y.desc = some sig) (hlen : argsL.length = sig.parameters.length) (hst : st = argsL.reverse ++ rest) (has : argsL.toArray = as') (hW : (rest.map fun v => v.category).sum = W)
    (hd : decode c.code pc = .ok (.invokestatic index, 3)) (hp : pc + 3 = pc') (hc0 : rm.cells = 0) (hs0 : rm.slots = 0) (hc : cells + rm.cells ≤ R.cells) (hs : slots + rm.slots ≤ R.slots)
    {st' : List Value} (hst' : V.toList ++ rest = st')
    (k : ∀ T', Stand p l e R s m args below meth c T' locs cells slots → T'.heap = h → own_Go p e below Q T' (mkF m pc' Ls st')) : own_Go p e below Q T (mkF m pc Ls st) := by
  subst hst'
  refine o_callS X hx hZ eT hown w1 w2 w3 w4 hy hM hf hl hml hpd hlen hst has hW hd hp hc hs fun v T' L X' hK => ?_
  obtain ⟨rfl, e', rfl⟩ := hK
  rw [hc0, hs0, List.append_nil] at X'
  exact k T' X' e'
theorem own_snoc {a : Addr} {L : List Loc} {j : Nat} (N : ∀ y ∈ L, y.base = a) : ∀ y ∈ L ++ [⟨a, j⟩], y.base = a := fun y hy => (List.mem_append.mp hy).elim (N y) fun q => by cases List.mem_singleton.mp q; rfl
theorem own_nil (X : Stand p l e R s m args below meth c T (locs ++ []) cells slots) : Stand p l e R s m args below meth c T locs cells slots := by rw [List.append_nil] at X; exact X
/-- a body that writes into the array a alone -/
def own_KW (Z : State) (a : Addr) (ty : FieldType) (vs : List Int32) (h0 : Heap) : Option Value → Heap → List Loc → Prop := fun v h L => v = none ∧ (∀ y ∈ L, y.base = a) ∧ Keep h0 h [a] ∧ own_AI Z h a ty vs
def own_KWJ (Z : State) (a : Addr) (vs : List Int64) (h0 : Heap) : Option Value → Heap → List Loc → Prop := fun v h L => v = none ∧ (∀ y ∈ L, y.base = a) ∧ Keep h0 h [a] ∧ own_AJ Z h a vs
/-- a body that makes an array and hands it back -/
def own_KM (Z : State) (ty : FieldType) (vs : List Int32) (h0 : Heap) : Option Value → Heap → List Loc → Prop := fun v h L => ∃ b, v = some (.ref b) ∧ L = [] ∧ Keep h0 h [] ∧ h0.size ≤ b ∧ own_AI Z h b ty vs
/-- a store over a local that held nothing or one word -/
theorem o_istoreNS (X : Stand p l e R s m args below meth c T locs cells slots) (hx : p.tables.exec = Jvm.exec) {k : Fin 4} {o : Slot} (hd : decode c.code pc = .ok (.istore_n k, 1)) (hold : Ls[k.val]? = some o) (ho : One o) (hl : Ls.setIfInBounds k.val (.val (.int x)) = l') (hp : pc + 1 = pc') (q : own_Go p e below Q T (mkF m pc' l' rest)) : own_Go p e below Q T (mkF m pc Ls (.int x :: rest)) := by
  subst hp hl; exact own_go (fun t k' => XS.istoreNS X.here hx rfl hd rfl hold ho k') q
theorem o_istoreS (X : Stand p l e R s m args below meth c T locs cells slots) (hx : p.tables.exec = Jvm.exec) {k : Nat} {o : Slot} (hd : decode c.code pc = .ok (.istore k, 2)) (hold : Ls[k]? = some o) (ho : One o) (hl : Ls.setIfInBounds k (.val (.int x)) = l') (hp : pc + 2 = pc') (q : own_Go p e below Q T (mkF m pc' l' rest)) : own_Go p e below Q T (mkF m pc Ls (.int x :: rest)) := by
  subst hp hl; exact own_go (fun t k' => XS.istoreS X.here hx rfl hd rfl hold ho k') q
theorem o_astoreS (X : Stand p l e R s m args below meth c T locs cells slots) (hx : p.tables.exec = Jvm.exec) {k : Nat} {o : Slot} {v : Value} (hd : decode c.code pc = .ok (.astore k, 2)) (hv : v.isRef = true) (hcat : v.category = 1) (hold : Ls[k]? = some o) (ho : One o) (hl : Ls.setIfInBounds k (.val v) = l') (hp : pc + 2 = pc') (q : own_Go p e below Q T (mkF m pc' l' rest)) : own_Go p e below Q T (mkF m pc Ls (v :: rest)) := by
  subst hp hl; exact own_go (fun t k' => XS.astoreS X.here hx rfl hd rfl hv hcat hold ho k') q
end OwnKit
/-! own facts on numbers (with kit/NumsL) -/
theorem own_tmod (x y : Int32) : (own_rem x y).toInt = x.toInt.tmod y.toInt := by
  have a := (x % y).toInt_lt; have b := (x % y).le_toInt
  rw [Int32.toInt_mod] at a b
  show (x - (x / y) * y).toInt = _
  rw [Int32.toInt_sub, Int32.toInt_mul, Int32.toInt_div, Int.bmod_mul_bmod, Int.sub_bmod_bmod, Int.mul_comm, ← Int.tmod_def]
  exact Jvm.Kit.bmod32 b a
theorem own_emod {x y : Int32} (hx : 0 ≤ x.toInt) : (own_rem x y).toInt = x.toInt % y.toInt := by rw [own_tmod, Int.tmod_eq_emod_of_nonneg hx]
theorem own_lemod {u w : Int64} (hx : 0 ≤ u.toInt) : (own_lrem u w).toInt = u.toInt % w.toInt := Jvm.Kit.i64_rem_nonneg hx
theorem own_max (x : Int32) : (x &&& 2147483647).toInt = x.toInt % 2 ^ 31 := Jvm.Kit.i32_mask x 2147483647 (by decide) (by decide)
/-- x >>> k, k a number from 1 to 31, as a division of the number without sign -/
theorem own_ushr_toNat (x y : Int32) {k : Nat} (hk : (y &&& 31).toUInt32.toNat = k) (h1 : k < 32) : (own_ushr x y).toBitVec.toNat = x.toBitVec.toNat / 2 ^ k := by
  show ((x.toUInt32 >>> (y &&& 31).toUInt32).toInt32).toBitVec.toNat = _
  rw [UInt32.toBitVec_toInt32, UInt32.toBitVec_shiftRight]
  have e : ((y &&& 31).toUInt32.toBitVec % 32).toNat = k := by
    have e0 : (y &&& 31).toUInt32.toBitVec.toNat = k := hk
    rw [BitVec.toNat_umod, e0]
    exact Nat.mod_eq_of_lt h1
  show (x.toBitVec >>> ((y &&& 31).toUInt32.toBitVec % 32).toNat).toNat = _
  rw [e, BitVec.toNat_ushiftRight, Nat.shiftRight_eq_div_pow]
theorem own_ushr_toInt (x y : Int32) {k : Nat} (hk : (y &&& 31).toUInt32.toNat = k) (h0 : 0 < k) (h1 : k < 32) : (own_ushr x y).toInt = (x.toBitVec.toNat / 2 ^ k : Nat) := by
  have h := own_ushr_toNat x y hk h1
  have hb := x.toBitVec.isLt
  have h2 : x.toBitVec.toNat / 2 ^ k ≤ x.toBitVec.toNat / 2 ^ 1 := Nat.div_le_div_left (Nat.pow_le_pow_right (by decide) h0) (by decide)
  have e : (own_ushr x y).toInt = (own_ushr x y).toBitVec.toInt := rfl
  rw [e, BitVec.toInt_eq_toNat_cond, h, if_pos (by omega)]
theorem own_in_of {n : Nat} {j : Int32} (h0 : 0 ≤ j.toInt) (h1 : j.toInt < n) : own_in n j := by
  refine ⟨fun q => ?_, ?_⟩
  · rw [Int32.lt_iff_toInt_lt] at q
    have : (0 : Int32).toInt = 0 := rfl
    omega
  · rw [Int32.toNatClampNeg]; omega
theorem own_lt {x y : Int32} : x < y ↔ x.toInt < y.toInt := Int32.lt_iff_toInt_lt
theorem own_eq {x y : Int32} : x = y ↔ x.toInt = y.toInt := Int32.toInt_inj.symm
theorem own_ltL {x y : Int64} : x < y ↔ x.toInt < y.toInt := Int64.lt_iff_toInt_lt
theorem own_eqL {x y : Int64} : x = y ↔ x.toInt = y.toInt := Int64.toInt_inj.symm
theorem own_nat_toInt {k : Nat} (h : k < 2 ^ 31) : (Int32.ofNat k).toInt = k := Int32.toInt_ofNat_of_lt (by omega)
theorem own_nat_lt {i n : Nat} (hi : i < 2 ^ 31) (hn : n < 2 ^ 31) : Int32.ofNat i < Int32.ofNat n ↔ i < n := by
  rw [own_lt, own_nat_toInt hi, own_nat_toInt hn]; omega
theorem own_nat_one (i : Nat) : Int32.ofNat i + (1 : Int32) = Int32.ofNat (i + 1) := (Int32.ofNat_add i 1).symm
theorem own_nat_clamp {k : Nat} (h : k < 2 ^ 31) : (Int32.ofNat k).toNatClampNeg = k := by
  rw [Int32.toNatClampNeg, own_nat_toInt h]; rfl
theorem own_nat_get (v : List Int32) {k : Nat} (h : k < 2 ^ 31) : own_get v (Int32.ofNat k) = v.getD k 0 := by rw [own_get, own_nat_clamp h]
theorem own_nat_in {n k : Nat} (h : k < n) (hk : k < 2 ^ 31) : own_in n (Int32.ofNat k) := own_in_of (by rw [own_nat_toInt hk]; omega) (by rw [own_nat_toInt hk]; omega)
theorem own_nat_of {x : Int32} (h : 0 ≤ x.toInt) : ∃ k : Nat, x = Int32.ofNat k ∧ (k : Int) = x.toInt ∧ k < 2 ^ 31 := by
  have u := x.toInt_lt
  refine ⟨x.toInt.toNat, ?_, by omega, by omega⟩
  rw [own_eq, own_nat_toInt (by omega)]; omega
theorem own_nat_sub {a b : Nat} (ha : a < 2 ^ 31) (h : b ≤ a) : Int32.ofNat a - Int32.ofNat b = Int32.ofNat (a - b) := by
  have e1 := own_nat_toInt ha
  have e2 := own_nat_toInt (k := b) (by omega)
  have e3 := own_nat_toInt (k := a - b) (by omega)
  rw [own_eq, Jvm.Kit.i32_sub (by omega) (by omega)]
  omega
theorem own_i2b2 (x : Int32) : own_i2b (own_i2b x) = own_i2b x := by
  show (x.toInt8.toInt32).toInt8.toInt32 = x.toInt8.toInt32
  rw [Int8.toInt8_toInt32]
/-- a hash: 31 * h + the next, count times from place i on -/
def own_h (v : List Int32) : Int32 → Nat → Nat → Int32
  | h, _, 0 => h
  | h, i, c + 1 => own_h v (31 * h + v.getD i 0) (i + 1) c
def own_p : Nat → Int32
  | 0 => 1
  | n + 1 => 31 * own_p n
def own_sum (v : List Int32) : Nat → Nat → Int32
  | _, 0 => 0
  | i, c + 1 => v.getD i 0 * own_p c + own_sum v (i + 1) c
theorem own_h_eq (v : List Int32) : ∀ (c : Nat) (h : Int32) (i : Nat), own_h v h i c = h * own_p c + own_sum v i c := by
  intro c
  induction c with
  | zero => intro h i; simp only [own_h, own_p, own_sum, Int32.mul_one, Int32.add_zero]
  | succ c ih =>
    intro h i
    rw [own_h, ih, own_p, own_sum, Int32.add_mul, Int32.mul_comm 31 h, Int32.mul_assoc, Int32.add_assoc]
theorem own_toNat (x : Int32) : (x.toBitVec.toNat : Int) = x.toInt % 2 ^ 32 := by
  have e : x.toInt = x.toBitVec.toInt := rfl
  have h := x.toBitVec.isLt
  rw [e, BitVec.toInt_eq_toNat_cond]
  split <;> omega
theorem pd_0 : parseMethodDescriptor "(I)Z" = some ⟨[.int], some .boolean⟩ := by decide +kernel
theorem pd_1 : parseMethodDescriptor "([BII)I" = some ⟨[(.array .byte), .int, .int], some .int⟩ := by decide +kernel
theorem d3_0 : decode method_3_code 0 = .ok (.iload_n 0, 1) := by decide +kernel
theorem d3_1 : decode method_3_code 1 = .ok (.sipush 192, 3) := by decide +kernel
theorem d3_4 : decode method_3_code 4 = .ok (.iand, 1) := by decide +kernel
theorem d3_5 : decode method_3_code 5 = .ok (.sipush 128, 3) := by decide +kernel
theorem d3_8 : decode method_3_code 8 = .ok (.if_icmp .ne 7, 3) := by decide +kernel
theorem d3_11 : decode method_3_code 11 = .ok (.iconst 1, 1) := by decide +kernel
theorem d3_12 : decode method_3_code 12 = .ok (.goto 4, 3) := by decide +kernel
theorem d3_15 : decode method_3_code 15 = .ok (.iconst 0, 1) := by decide +kernel
theorem d3_16 : decode method_3_code 16 = .ok (.ireturn, 1) := by decide +kernel
section Body3
variable {p : Program} {l : Launch} {e : Env} {s : State} {m : MethodId} {args : Array Value} {below : List Frame} {meth : Method} {c : Code} {Z : State} {ag : Array Value} {K : Option Value → Heap → List Loc → Prop}
abbrev R3 : Room := { frames := 0, cells := 0, slots := 0, locals := 0 }
abbrev cc3 : Nat := 0
abbrev ss3 : Nat := 0
def f3_16 : Int32 := (0 : Int32)
set_option maxRecDepth 65536 in
set_option maxHeartbeats 40000000 in
theorem b3_16 (C : own_Cx p s m meth c Z ag method_3_code 1 "com/example/fairtally/fairtally/ledger/Utf8SequenceLengthPinLaw" (some .boolean) "cont") {T : State} {h : Heap} {z0 : Slot} (X : Stand p l e R3 s m args below meth c T [] 0 0) (eT : T.heap = h) (hz0 : One z0) (hK : K (some (.int (f3_16))) h []) : own_Go p e below (own_Q s K cc3 ss3) T (mkF m 16 #[z0] [(.int (0 : Int32))]) := by
  obtain ⟨hx, hZ, hw, hby, hml, hown, hret, hlk, hnm⟩ := id C
  unfold f3_16 at hK
  exact o_retN X hx (t := .boolean) hret (by simp) hlk (hb hby d3_16) (by decide) (by decide) eT (hK)

def f3_16_2 : Int32 := (1 : Int32)
set_option maxRecDepth 65536 in
set_option maxHeartbeats 40000000 in
theorem b3_16_2 (C : own_Cx p s m meth c Z ag method_3_code 1 "com/example/fairtally/fairtally/ledger/Utf8SequenceLengthPinLaw" (some .boolean) "cont") {T : State} {h : Heap} {z0 : Slot} (X : Stand p l e R3 s m args below meth c T [] 0 0) (eT : T.heap = h) (hz0 : One z0) (hK : K (some (.int (f3_16_2))) h []) : own_Go p e below (own_Q s K cc3 ss3) T (mkF m 16 #[z0] [(.int (1 : Int32))]) := by
  obtain ⟨hx, hZ, hw, hby, hml, hown, hret, hlk, hnm⟩ := id C
  unfold f3_16_2 at hK
  exact o_retN X hx (t := .boolean) hret (by simp) hlk (hb hby d3_16) (by decide) (by decide) eT (hK)

def f3_0 (p0 : Int32) : Int32 := (if (p0 &&& (192 : Int32)) = (128 : Int32) then f3_16_2 else f3_16)
set_option maxRecDepth 65536 in
set_option maxHeartbeats 40000000 in
theorem b3_0 (C : own_Cx p s m meth c Z ag method_3_code 1 "com/example/fairtally/fairtally/ledger/Utf8SequenceLengthPinLaw" (some .boolean) "cont") {T : State} {h : Heap} (p0 : Int32) (X : Stand p l e R3 s m args below meth c T [] 0 0) (eT : T.heap = h) (hK : K (some (.int (f3_0 p0))) h []) : own_Go p e below (own_Q s K cc3 ss3) T (mkF m 0 #[.val (.int p0)] []) := by
  obtain ⟨hx, hZ, hw, hby, hml, hown, hret, hlk, hnm⟩ := id C
  unfold f3_0 at hK
  refine o_iloadN (pc' := 1) X hx (hb hby d3_0) rfl rfl ?_
  refine o_sipush (pc' := 4) (x := (192 : Int32)) X hx (hb hby d3_1) (by decide) rfl ?_
  refine o_iand (pc' := 5)  X hx (hb hby d3_4) rfl rfl ?_
  refine o_sipush (pc' := 8) (x := (128 : Int32)) X hx (hb hby d3_5) (by decide) rfl ?_
  refine o_icN (P := (p0 &&& (192 : Int32)) = (128 : Int32)) (pc1 := 15) (pc2 := 11) X hx XT.ii_ne_f XT.ii_ne_t (hb hby d3_8) (by decide) (by decide) rfl (fun c1 => ?_) (fun c1 => ?_)
  · rw [if_neg c1] at hK
    refine o_iconst (pc' := 16) (x := (0 : Int32)) X hx (hb hby d3_15) (by decide) rfl ?_
    exact b3_16 C X eT (One.val rfl) hK
  · rw [if_pos c1] at hK
    refine o_iconst (pc' := 12) (x := (1 : Int32)) X hx (hb hby d3_11) (by decide) rfl ?_
    refine o_goto (pc' := 16) X hx (hb hby d3_12) (by decide) (by decide) ?_
    exact b3_16_2 C X eT (One.val rfl) hK

end Body3
theorem pn_Utf8SequenceLengthPinLaw : plainName "com/example/fairtally/fairtally/ledger/Utf8SequenceLengthPinLaw" = true := by first | (simp [plainName, overriddenIn]; done) | decide +kernel
theorem ef_3 (m : MethodId) (p0 : Int32) : entryFrame m #[(.int p0)] 1 = mkF m 0 #[.val (.int p0)] [] := by first | (simp [entryFrame, mkF, argsToLocals, Value.category]; done) | rfl
set_option maxRecDepth 65536 in
set_option maxHeartbeats 40000000 in
theorem rm3 (l : Launch) (Z : State) (ag : Array Value) (hw : ∀ d ∈ tables_1, d.before ag Z = true) (ws : List Jvm.Cond) (p0 : Int32) (h0 : Heap) :
    MetFree l (⟨"com/example/fairtally/fairtally/ledger/Utf8SequenceLengthPinLaw", "cont", "(I)Z"⟩ : MethodName) (head1 (Jvm.Cond.code (⟨"com/example/fairtally/fairtally/ledger/Utf8SequenceLengthPinLaw", "cont", "(I)Z"⟩ : MethodName) method_3_code 1 (some .boolean) :: ws) R3) (fun a U => a = #[(.int p0)] ∧ Z.Warmed39 U.vm ∧ U.heap = h0) (fun _ _ _ _ _ => True) (fun _ U o U' => ∃ v L, o = .returned v ∧ own_KP (some (.int (f3_0 p0))) h0 v U'.heap L ∧ FrameEnd U o U' L R3.cells R3.slots) := by
  refine MetFree.of_bodySF (plainFor_of_name pn_Utf8SequenceLengthPinLaw) hisR ?_
  intro p e s m args below meth c s₁ Bd hml0 hP hK
  obtain ⟨rfl, hZ, hh⟩ := hP
  have C : own_Cx p s m meth c Z ag method_3_code 1 "com/example/fairtally/fairtally/ledger/Utf8SequenceLengthPinLaw" (some .boolean) "cont" := ⟨Bd.exec, hZ, hw, Bd.bytes, hml0, findClass_of_methodNamed Bd.named, Bd.returns, Bd.notSynchronized, (name_of_methodNamed Bd.named Bd.method).1⟩
  have X0 : Stand p l e R3 s m #[(.int p0)] below meth c s₁ [] 0 0 := Stand.of_body Bd
  have e0 : s₁.heap = h0 := by rw [← hh, Bd.state]; rfl
  rw [ef_3]
  exact b3_0 (K := own_KP (some (.int (f3_0 p0))) h0) C p0 X0 e0 ⟨rfl, rfl, rfl⟩

theorem d1_0 : decode method_4_code 0 = .ok (.aload_n 0, 1) := by decide +kernel
theorem d1_1 : decode method_4_code 1 = .ok (.iload_n 1, 1) := by decide +kernel
theorem d1_2 : decode method_4_code 2 = .ok (.baload, 1) := by decide +kernel
theorem d1_3 : decode method_4_code 3 = .ok (.sipush 255, 3) := by decide +kernel
theorem d1_6 : decode method_4_code 6 = .ok (.iand, 1) := by decide +kernel
theorem d1_7 : decode method_4_code 7 = .ok (.istore_n 3, 1) := by decide +kernel
theorem d1_8 : decode method_4_code 8 = .ok (.aload_n 0, 1) := by decide +kernel
theorem d1_9 : decode method_4_code 9 = .ok (.iload_n 1, 1) := by decide +kernel
theorem d1_10 : decode method_4_code 10 = .ok (.iconst 1, 1) := by decide +kernel
theorem d1_11 : decode method_4_code 11 = .ok (.iadd, 1) := by decide +kernel
theorem d1_12 : decode method_4_code 12 = .ok (.baload, 1) := by decide +kernel
theorem d1_13 : decode method_4_code 13 = .ok (.sipush 255, 3) := by decide +kernel
theorem d1_16 : decode method_4_code 16 = .ok (.iand, 1) := by decide +kernel
theorem d1_17 : decode method_4_code 17 = .ok (.istore 4, 2) := by decide +kernel
theorem d1_19 : decode method_4_code 19 = .ok (.aload_n 0, 1) := by decide +kernel
theorem d1_20 : decode method_4_code 20 = .ok (.iload_n 1, 1) := by decide +kernel
theorem d1_21 : decode method_4_code 21 = .ok (.iconst 2, 1) := by decide +kernel
theorem d1_22 : decode method_4_code 22 = .ok (.iadd, 1) := by decide +kernel
theorem d1_23 : decode method_4_code 23 = .ok (.baload, 1) := by decide +kernel
theorem d1_24 : decode method_4_code 24 = .ok (.sipush 255, 3) := by decide +kernel
theorem d1_27 : decode method_4_code 27 = .ok (.iand, 1) := by decide +kernel
theorem d1_28 : decode method_4_code 28 = .ok (.istore 5, 2) := by decide +kernel
theorem d1_30 : decode method_4_code 30 = .ok (.aload_n 0, 1) := by decide +kernel
theorem d1_31 : decode method_4_code 31 = .ok (.iload_n 1, 1) := by decide +kernel
theorem d1_32 : decode method_4_code 32 = .ok (.iconst 3, 1) := by decide +kernel
theorem d1_33 : decode method_4_code 33 = .ok (.iadd, 1) := by decide +kernel
theorem d1_34 : decode method_4_code 34 = .ok (.baload, 1) := by decide +kernel
theorem d1_35 : decode method_4_code 35 = .ok (.sipush 255, 3) := by decide +kernel
theorem d1_38 : decode method_4_code 38 = .ok (.iand, 1) := by decide +kernel
theorem d1_39 : decode method_4_code 39 = .ok (.istore 6, 2) := by decide +kernel
theorem d1_41 : decode method_4_code 41 = .ok (.iload_n 2, 1) := by decide +kernel
theorem d1_42 : decode method_4_code 42 = .ok (.iload_n 1, 1) := by decide +kernel
theorem d1_43 : decode method_4_code 43 = .ok (.isub, 1) := by decide +kernel
theorem d1_44 : decode method_4_code 44 = .ok (.istore 7, 2) := by decide +kernel
theorem d1_46 : decode method_4_code 46 = .ok (.iload_n 3, 1) := by decide +kernel
theorem d1_47 : decode method_4_code 47 = .ok (.sipush 224, 3) := by decide +kernel
theorem d1_50 : decode method_4_code 50 = .ok (.iand, 1) := by decide +kernel
theorem d1_51 : decode method_4_code 51 = .ok (.sipush 192, 3) := by decide +kernel
theorem d1_54 : decode method_4_code 54 = .ok (.if_icmp .ne 18, 3) := by decide +kernel
theorem d1_57 : decode method_4_code 57 = .ok (.iconst 2, 1) := by decide +kernel
theorem d1_58 : decode method_4_code 58 = .ok (.istore 8, 2) := by decide +kernel
theorem d1_60 : decode method_4_code 60 = .ok (.iload_n 3, 1) := by decide +kernel
theorem d1_61 : decode method_4_code 61 = .ok (.bipush 31, 2) := by decide +kernel
theorem d1_63 : decode method_4_code 63 = .ok (.iand, 1) := by decide +kernel
theorem d1_64 : decode method_4_code 64 = .ok (.bipush 6, 2) := by decide +kernel
theorem d1_66 : decode method_4_code 66 = .ok (.ishl, 1) := by decide +kernel
theorem d1_67 : decode method_4_code 67 = .ok (.istore 9, 2) := by decide +kernel
theorem d1_69 : decode method_4_code 69 = .ok (.goto 57, 3) := by decide +kernel
theorem d1_72 : decode method_4_code 72 = .ok (.iload_n 3, 1) := by decide +kernel
theorem d1_73 : decode method_4_code 73 = .ok (.sipush 240, 3) := by decide +kernel
theorem d1_76 : decode method_4_code 76 = .ok (.iand, 1) := by decide +kernel
theorem d1_77 : decode method_4_code 77 = .ok (.sipush 224, 3) := by decide +kernel
theorem d1_80 : decode method_4_code 80 = .ok (.if_icmp .ne 18, 3) := by decide +kernel
theorem d1_83 : decode method_4_code 83 = .ok (.iconst 3, 1) := by decide +kernel
theorem d1_84 : decode method_4_code 84 = .ok (.istore 8, 2) := by decide +kernel
theorem d1_86 : decode method_4_code 86 = .ok (.iload_n 3, 1) := by decide +kernel
theorem d1_87 : decode method_4_code 87 = .ok (.bipush 15, 2) := by decide +kernel
theorem d1_89 : decode method_4_code 89 = .ok (.iand, 1) := by decide +kernel
theorem d1_90 : decode method_4_code 90 = .ok (.bipush 12, 2) := by decide +kernel
theorem d1_92 : decode method_4_code 92 = .ok (.ishl, 1) := by decide +kernel
theorem d1_93 : decode method_4_code 93 = .ok (.istore 9, 2) := by decide +kernel
theorem d1_95 : decode method_4_code 95 = .ok (.goto 31, 3) := by decide +kernel
theorem d1_98 : decode method_4_code 98 = .ok (.iload_n 3, 1) := by decide +kernel
theorem d1_99 : decode method_4_code 99 = .ok (.sipush 248, 3) := by decide +kernel
theorem d1_102 : decode method_4_code 102 = .ok (.iand, 1) := by decide +kernel
theorem d1_103 : decode method_4_code 103 = .ok (.sipush 240, 3) := by decide +kernel
theorem d1_106 : decode method_4_code 106 = .ok (.if_icmp .ne 18, 3) := by decide +kernel
theorem d1_109 : decode method_4_code 109 = .ok (.iconst 4, 1) := by decide +kernel
theorem d1_110 : decode method_4_code 110 = .ok (.istore 8, 2) := by decide +kernel
theorem d1_112 : decode method_4_code 112 = .ok (.iload_n 3, 1) := by decide +kernel
theorem d1_113 : decode method_4_code 113 = .ok (.bipush 7, 2) := by decide +kernel
theorem d1_115 : decode method_4_code 115 = .ok (.iand, 1) := by decide +kernel
theorem d1_116 : decode method_4_code 116 = .ok (.bipush 18, 2) := by decide +kernel
theorem d1_118 : decode method_4_code 118 = .ok (.ishl, 1) := by decide +kernel
theorem d1_119 : decode method_4_code 119 = .ok (.istore 9, 2) := by decide +kernel
theorem d1_121 : decode method_4_code 121 = .ok (.goto 5, 3) := by decide +kernel
theorem d1_124 : decode method_4_code 124 = .ok (.iconst 0, 1) := by decide +kernel
theorem d1_125 : decode method_4_code 125 = .ok (.ireturn, 1) := by decide +kernel
theorem d1_126 : decode method_4_code 126 = .ok (.iload 8, 2) := by decide +kernel
theorem d1_128 : decode method_4_code 128 = .ok (.iconst 2, 1) := by decide +kernel
theorem d1_129 : decode method_4_code 129 = .ok (.if_icmp .ne 9, 3) := by decide +kernel
theorem d1_132 : decode method_4_code 132 = .ok (.sipush 128, 3) := by decide +kernel
theorem d1_135 : decode method_4_code 135 = .ok (.goto 17, 3) := by decide +kernel
theorem d1_138 : decode method_4_code 138 = .ok (.iload 8, 2) := by decide +kernel
theorem d1_140 : decode method_4_code 140 = .ok (.iconst 3, 1) := by decide +kernel
theorem d1_141 : decode method_4_code 141 = .ok (.if_icmp .ne 9, 3) := by decide +kernel
theorem d1_144 : decode method_4_code 144 = .ok (.sipush 2048, 3) := by decide +kernel
theorem d1_147 : decode method_4_code 147 = .ok (.goto 5, 3) := by decide +kernel
theorem d1_150 : decode method_4_code 150 = .ok (.ldc 18, 2) := by decide +kernel
theorem d1_152 : decode method_4_code 152 = .ok (.istore 10, 2) := by decide +kernel
theorem d1_154 : decode method_4_code 154 = .ok (.iload 8, 2) := by decide +kernel
theorem d1_156 : decode method_4_code 156 = .ok (.iconst 2, 1) := by decide +kernel
theorem d1_157 : decode method_4_code 157 = .ok (.if_icmp .ne 8, 3) := by decide +kernel
theorem d1_160 : decode method_4_code 160 = .ok (.bipush 63, 2) := by decide +kernel
theorem d1_162 : decode method_4_code 162 = .ok (.goto 17, 3) := by decide +kernel
theorem d1_165 : decode method_4_code 165 = .ok (.iload 8, 2) := by decide +kernel
theorem d1_167 : decode method_4_code 167 = .ok (.iconst 3, 1) := by decide +kernel
theorem d1_168 : decode method_4_code 168 = .ok (.if_icmp .ne 9, 3) := by decide +kernel
theorem d1_171 : decode method_4_code 171 = .ok (.sipush 4095, 3) := by decide +kernel
theorem d1_174 : decode method_4_code 174 = .ok (.goto 5, 3) := by decide +kernel
theorem d1_177 : decode method_4_code 177 = .ok (.ldc 19, 2) := by decide +kernel
theorem d1_179 : decode method_4_code 179 = .ok (.istore 11, 2) := by decide +kernel
theorem d1_181 : decode method_4_code 181 = .ok (.iload 9, 2) := by decide +kernel
theorem d1_183 : decode method_4_code 183 = .ok (.iload 11, 2) := by decide +kernel
theorem d1_185 : decode method_4_code 185 = .ok (.iadd, 1) := by decide +kernel
theorem d1_186 : decode method_4_code 186 = .ok (.iload 10, 2) := by decide +kernel
theorem d1_188 : decode method_4_code 188 = .ok (.if_icmp .lt 10, 3) := by decide +kernel
theorem d1_191 : decode method_4_code 191 = .ok (.iload 9, 2) := by decide +kernel
theorem d1_193 : decode method_4_code 193 = .ok (.ldc 20, 2) := by decide +kernel
theorem d1_195 : decode method_4_code 195 = .ok (.if_icmp .le 5, 3) := by decide +kernel
theorem d1_198 : decode method_4_code 198 = .ok (.iconst 0, 1) := by decide +kernel
theorem d1_199 : decode method_4_code 199 = .ok (.ireturn, 1) := by decide +kernel
theorem d1_200 : decode method_4_code 200 = .ok (.iload 7, 2) := by decide +kernel
theorem d1_202 : decode method_4_code 202 = .ok (.iconst 2, 1) := by decide +kernel
theorem d1_203 : decode method_4_code 203 = .ok (.if_icmp .ge 5, 3) := by decide +kernel
theorem d1_206 : decode method_4_code 206 = .ok (.iconst (-1), 1) := by decide +kernel
theorem d1_207 : decode method_4_code 207 = .ok (.ireturn, 1) := by decide +kernel
theorem d1_208 : decode method_4_code 208 = .ok (.iload 4, 2) := by decide +kernel
theorem d1_210 : decode method_4_code 210 = .ok (.invokestatic 21, 3) := by decide +kernel
theorem d1_213 : decode method_4_code 213 = .ok (.ifCond .ne 5, 3) := by decide +kernel
theorem d1_216 : decode method_4_code 216 = .ok (.iconst 0, 1) := by decide +kernel
theorem d1_217 : decode method_4_code 217 = .ok (.ireturn, 1) := by decide +kernel
theorem d1_218 : decode method_4_code 218 = .ok (.iload 8, 2) := by decide +kernel
theorem d1_220 : decode method_4_code 220 = .ok (.iconst 2, 1) := by decide +kernel
theorem d1_221 : decode method_4_code 221 = .ok (.if_icmp .ne 7, 3) := by decide +kernel
theorem d1_224 : decode method_4_code 224 = .ok (.iconst 0, 1) := by decide +kernel
theorem d1_225 : decode method_4_code 225 = .ok (.goto 16, 3) := by decide +kernel
theorem d1_228 : decode method_4_code 228 = .ok (.iload 8, 2) := by decide +kernel
theorem d1_230 : decode method_4_code 230 = .ok (.iconst 3, 1) := by decide +kernel
theorem d1_231 : decode method_4_code 231 = .ok (.if_icmp .ne 8, 3) := by decide +kernel
theorem d1_234 : decode method_4_code 234 = .ok (.bipush 6, 2) := by decide +kernel
theorem d1_236 : decode method_4_code 236 = .ok (.goto 5, 3) := by decide +kernel
theorem d1_239 : decode method_4_code 239 = .ok (.bipush 12, 2) := by decide +kernel
theorem d1_241 : decode method_4_code 241 = .ok (.istore 12, 2) := by decide +kernel
theorem d1_243 : decode method_4_code 243 = .ok (.iload 9, 2) := by decide +kernel
theorem d1_245 : decode method_4_code 245 = .ok (.iload 4, 2) := by decide +kernel
theorem d1_247 : decode method_4_code 247 = .ok (.bipush 63, 2) := by decide +kernel
theorem d1_249 : decode method_4_code 249 = .ok (.iand, 1) := by decide +kernel
theorem d1_250 : decode method_4_code 250 = .ok (.iload 12, 2) := by decide +kernel
theorem d1_252 : decode method_4_code 252 = .ok (.ishl, 1) := by decide +kernel
theorem d1_253 : decode method_4_code 253 = .ok (.ior, 1) := by decide +kernel
theorem d1_254 : decode method_4_code 254 = .ok (.istore 13, 2) := by decide +kernel
theorem d1_256 : decode method_4_code 256 = .ok (.iload 13, 2) := by decide +kernel
theorem d1_258 : decode method_4_code 258 = .ok (.iload 10, 2) := by decide +kernel
theorem d1_260 : decode method_4_code 260 = .ok (.if_icmp .lt 24, 3) := by decide +kernel
theorem d1_263 : decode method_4_code 263 = .ok (.iload 13, 2) := by decide +kernel
theorem d1_265 : decode method_4_code 265 = .ok (.ldc 20, 2) := by decide +kernel
theorem d1_267 : decode method_4_code 267 = .ok (.if_icmp .gt 17, 3) := by decide +kernel
theorem d1_270 : decode method_4_code 270 = .ok (.iload 13, 2) := by decide +kernel
theorem d1_272 : decode method_4_code 272 = .ok (.ldc 25, 2) := by decide +kernel
theorem d1_274 : decode method_4_code 274 = .ok (.if_icmp .lt 12, 3) := by decide +kernel
theorem d1_277 : decode method_4_code 277 = .ok (.iload 13, 2) := by decide +kernel
theorem d1_279 : decode method_4_code 279 = .ok (.ldc 26, 2) := by decide +kernel
theorem d1_281 : decode method_4_code 281 = .ok (.if_icmp .gt 5, 3) := by decide +kernel
theorem d1_284 : decode method_4_code 284 = .ok (.iconst 0, 1) := by decide +kernel
theorem d1_285 : decode method_4_code 285 = .ok (.ireturn, 1) := by decide +kernel
theorem d1_286 : decode method_4_code 286 = .ok (.iload 8, 2) := by decide +kernel
theorem d1_288 : decode method_4_code 288 = .ok (.iconst 2, 1) := by decide +kernel
theorem d1_289 : decode method_4_code 289 = .ok (.if_icmp .ne 5, 3) := by decide +kernel
theorem d1_292 : decode method_4_code 292 = .ok (.iconst 2, 1) := by decide +kernel
theorem d1_293 : decode method_4_code 293 = .ok (.ireturn, 1) := by decide +kernel
theorem d1_294 : decode method_4_code 294 = .ok (.iload 7, 2) := by decide +kernel
theorem d1_296 : decode method_4_code 296 = .ok (.iconst 3, 1) := by decide +kernel
theorem d1_297 : decode method_4_code 297 = .ok (.if_icmp .ge 5, 3) := by decide +kernel
theorem d1_300 : decode method_4_code 300 = .ok (.iconst (-1), 1) := by decide +kernel
theorem d1_301 : decode method_4_code 301 = .ok (.ireturn, 1) := by decide +kernel
theorem d1_302 : decode method_4_code 302 = .ok (.iload 5, 2) := by decide +kernel
theorem d1_304 : decode method_4_code 304 = .ok (.invokestatic 21, 3) := by decide +kernel
theorem d1_307 : decode method_4_code 307 = .ok (.ifCond .ne 5, 3) := by decide +kernel
theorem d1_310 : decode method_4_code 310 = .ok (.iconst 0, 1) := by decide +kernel
theorem d1_311 : decode method_4_code 311 = .ok (.ireturn, 1) := by decide +kernel
theorem d1_312 : decode method_4_code 312 = .ok (.iload 8, 2) := by decide +kernel
theorem d1_314 : decode method_4_code 314 = .ok (.iconst 3, 1) := by decide +kernel
theorem d1_315 : decode method_4_code 315 = .ok (.if_icmp .ne 5, 3) := by decide +kernel
theorem d1_318 : decode method_4_code 318 = .ok (.iconst 3, 1) := by decide +kernel
theorem d1_319 : decode method_4_code 319 = .ok (.ireturn, 1) := by decide +kernel
theorem d1_320 : decode method_4_code 320 = .ok (.iload 7, 2) := by decide +kernel
theorem d1_322 : decode method_4_code 322 = .ok (.iconst 4, 1) := by decide +kernel
theorem d1_323 : decode method_4_code 323 = .ok (.if_icmp .ge 5, 3) := by decide +kernel
theorem d1_326 : decode method_4_code 326 = .ok (.iconst (-1), 1) := by decide +kernel
theorem d1_327 : decode method_4_code 327 = .ok (.ireturn, 1) := by decide +kernel
theorem d1_328 : decode method_4_code 328 = .ok (.iload 6, 2) := by decide +kernel
theorem d1_330 : decode method_4_code 330 = .ok (.invokestatic 21, 3) := by decide +kernel
theorem d1_333 : decode method_4_code 333 = .ok (.ifCond .ne 5, 3) := by decide +kernel
theorem d1_336 : decode method_4_code 336 = .ok (.iconst 0, 1) := by decide +kernel
theorem d1_337 : decode method_4_code 337 = .ok (.ireturn, 1) := by decide +kernel
theorem d1_338 : decode method_4_code 338 = .ok (.iconst 4, 1) := by decide +kernel
theorem d1_339 : decode method_4_code 339 = .ok (.ireturn, 1) := by decide +kernel
section Body1
variable {p : Program} {l : Launch} {e : Env} {s : State} {m : MethodId} {args : Array Value} {below : List Frame} {meth : Method} {c : Code} {Z : State} {ag : Array Value} {K : Option Value → Heap → List Loc → Prop}
abbrev R1 : Room := { frames := 1, cells := 0, slots := 0, locals := 12 }
abbrev cc1 : Nat := 0
abbrev ss1 : Nat := 0
def f1_198 : Int32 := (0 : Int32)
set_option maxRecDepth 65536 in
set_option maxHeartbeats 40000000 in
theorem b1_198 (C : own_Cx p s m meth c Z ag method_4_code 14 "com/example/fairtally/fairtally/ledger/Utf8SequenceLengthPinLaw" (some .int) "expected") {T : State} {h : Heap} {z0 : Slot} {z1 : Slot} {z2 : Slot} {z3 : Slot} {z4 : Slot} {z5 : Slot} {z6 : Slot} {z7 : Slot} {z8 : Slot} {z9 : Slot} {z10 : Slot} {z11 : Slot} {z12 : Slot} {z13 : Slot} (X : Stand p l e R1 s m args below meth c T [] 0 0) (eT : T.heap = h) (hz0 : One z0) (hz1 : One z1) (hz2 : One z2) (hz3 : One z3) (hz4 : One z4) (hz5 : One z5) (hz6 : One z6) (hz7 : One z7) (hz8 : One z8) (hz9 : One z9) (hz10 : One z10) (hz11 : One z11) (hz12 : One z12) (hz13 : One z13) (hK : K (some (.int (f1_198))) h []) : own_Go p e below (own_Q s K cc1 ss1) T (mkF m 198 #[z0, z1, z2, z3, z4, z5, z6, z7, z8, z9, z10, z11, z12, z13] []) := by
  obtain ⟨hx, hZ, hw, hby, hml, hown, hret, hlk, hnm⟩ := id C
  unfold f1_198 at hK
  refine o_iconst (pc' := 199) (x := (0 : Int32)) X hx (hb hby d1_198) (by decide) rfl ?_
  exact o_retI X hx hret hlk (hb hby d1_199) (by decide) (by decide) eT (hK)

def f1_284 : Int32 := (0 : Int32)
set_option maxRecDepth 65536 in
set_option maxHeartbeats 40000000 in
theorem b1_284 (C : own_Cx p s m meth c Z ag method_4_code 14 "com/example/fairtally/fairtally/ledger/Utf8SequenceLengthPinLaw" (some .int) "expected") {T : State} {h : Heap} {z0 : Slot} {z1 : Slot} {z2 : Slot} {z3 : Slot} {z4 : Slot} {z5 : Slot} {z6 : Slot} {z7 : Slot} {z8 : Slot} {z9 : Slot} {z10 : Slot} {z11 : Slot} {z12 : Slot} {z13 : Slot} (X : Stand p l e R1 s m args below meth c T [] 0 0) (eT : T.heap = h) (hz0 : One z0) (hz1 : One z1) (hz2 : One z2) (hz3 : One z3) (hz4 : One z4) (hz5 : One z5) (hz6 : One z6) (hz7 : One z7) (hz8 : One z8) (hz9 : One z9) (hz10 : One z10) (hz11 : One z11) (hz12 : One z12) (hz13 : One z13) (hK : K (some (.int (f1_284))) h []) : own_Go p e below (own_Q s K cc1 ss1) T (mkF m 284 #[z0, z1, z2, z3, z4, z5, z6, z7, z8, z9, z10, z11, z12, z13] []) := by
  obtain ⟨hx, hZ, hw, hby, hml, hown, hret, hlk, hnm⟩ := id C
  unfold f1_284 at hK
  refine o_iconst (pc' := 285) (x := (0 : Int32)) X hx (hb hby d1_284) (by decide) rfl ?_
  exact o_retI X hx hret hlk (hb hby d1_285) (by decide) (by decide) eT (hK)

def f1_286 (x5 : Int32) (x6 : Int32) (x7 : Int32) : Int32 := (if x7 < (3 : Int32) then (-1 : Int32) else (if (f3_0 x5) = (0 : Int32) then (0 : Int32) else (if x7 < (4 : Int32) then (-1 : Int32) else (if (f3_0 x6) = (0 : Int32) then (0 : Int32) else (4 : Int32)))))
set_option maxRecDepth 65536 in
set_option maxHeartbeats 40000000 in
theorem b1_286 (C : own_Cx p s m meth c Z ag method_4_code 14 "com/example/fairtally/fairtally/ledger/Utf8SequenceLengthPinLaw" (some .int) "expected") {T : State} {h : Heap} {z0 : Slot} {z1 : Slot} {z2 : Slot} {z3 : Slot} {z4 : Slot} {z9 : Slot} {z10 : Slot} {z11 : Slot} {z12 : Slot} {z13 : Slot} (x5 : Int32) (x6 : Int32) (x7 : Int32) (X : Stand p l e R1 s m args below meth c T [] 0 0) (eT : T.heap = h) (hz0 : One z0) (hz1 : One z1) (hz2 : One z2) (hz3 : One z3) (hz4 : One z4) (hz9 : One z9) (hz10 : One z10) (hz11 : One z11) (hz12 : One z12) (hz13 : One z13) (hK : K (some (.int (f1_286 x5 x6 x7))) h []) : own_Go p e below (own_Q s K cc1 ss1) T (mkF m 286 #[z0, z1, z2, z3, z4, .val (.int x5), .val (.int x6), .val (.int x7), .val (.int (4 : Int32)), z9, z10, z11, z12, z13] []) := by
  obtain ⟨hx, hZ, hw, hby, hml, hown, hret, hlk, hnm⟩ := id C
  unfold f1_286 at hK
  refine o_iload (pc' := 288) X hx (hb hby d1_286) rfl rfl ?_
  refine o_iconst (pc' := 289) (x := (2 : Int32)) X hx (hb hby d1_288) (by decide) rfl ?_
  refine o_icY (pc' := 294) X hx (by decide) (hb hby d1_289) (by decide) (by decide) ?_
  refine o_iload (pc' := 296) X hx (hb hby d1_294) rfl rfl ?_
  refine o_iconst (pc' := 297) (x := (3 : Int32)) X hx (hb hby d1_296) (by decide) rfl ?_
  refine o_icN (P := x7 < (3 : Int32)) (pc1 := 302) (pc2 := 300) X hx XT.ii_ge_f XT.ii_ge_t (hb hby d1_297) (by decide) (by decide) rfl (fun c13 => ?_) (fun c13 => ?_)
  · rw [if_neg c13] at hK
    refine o_iload (pc' := 304) X hx (hb hby d1_302) rfl rfl ?_
    refine o_callP (W := 0) (pc' := 307) (argsL := [(.int x5)]) (rest := []) (st' := [(.int (f3_0 x5))]) X hx hZ eT hown (hw _ (List.mem_of_getElem? (i := 10) rfl)) (hw _ (List.mem_of_getElem? (i := 11) rfl)) (hw _ (List.mem_of_getElem? (i := 3) rfl)) (hw _ (List.mem_of_getElem? (i := 12) rfl)) (by decide) (rm3 l Z ag hw [] x5 h) (by decide) (by decide) (by rw [hml]; rfl) pd_0 rfl rfl rfl rfl (hb hby d1_304) rfl rfl rfl (by decide) (by decide) rfl fun T14 X14 e14 => ?_
    refine o_ifN (P := (f3_0 x5) = (0 : Int32)) (pc1 := 312) (pc2 := 310) X14 hx XT.i0_ne_f XT.i0_ne_t (hb hby d1_307) (by decide) (by decide) rfl (fun c15 => ?_) (fun c15 => ?_)
    · rw [if_neg c15] at hK
      refine o_iload (pc' := 314) X14 hx (hb hby d1_312) rfl rfl ?_
      refine o_iconst (pc' := 315) (x := (3 : Int32)) X14 hx (hb hby d1_314) (by decide) rfl ?_
      refine o_icY (pc' := 320) X14 hx (by decide) (hb hby d1_315) (by decide) (by decide) ?_
      refine o_iload (pc' := 322) X14 hx (hb hby d1_320) rfl rfl ?_
      refine o_iconst (pc' := 323) (x := (4 : Int32)) X14 hx (hb hby d1_322) (by decide) rfl ?_
      refine o_icN (P := x7 < (4 : Int32)) (pc1 := 328) (pc2 := 326) X14 hx XT.ii_ge_f XT.ii_ge_t (hb hby d1_323) (by decide) (by decide) rfl (fun c16 => ?_) (fun c16 => ?_)
      · rw [if_neg c16] at hK
        refine o_iload (pc' := 330) X14 hx (hb hby d1_328) rfl rfl ?_
        refine o_callP (W := 0) (pc' := 333) (argsL := [(.int x6)]) (rest := []) (st' := [(.int (f3_0 x6))]) X14 hx hZ e14 hown (hw _ (List.mem_of_getElem? (i := 10) rfl)) (hw _ (List.mem_of_getElem? (i := 11) rfl)) (hw _ (List.mem_of_getElem? (i := 3) rfl)) (hw _ (List.mem_of_getElem? (i := 12) rfl)) (by decide) (rm3 l Z ag hw [] x6 h) (by decide) (by decide) (by rw [hml]; rfl) pd_0 rfl rfl rfl rfl (hb hby d1_330) rfl rfl rfl (by decide) (by decide) rfl fun T17 X17 e17 => ?_
        refine o_ifN (P := (f3_0 x6) = (0 : Int32)) (pc1 := 338) (pc2 := 336) X17 hx XT.i0_ne_f XT.i0_ne_t (hb hby d1_333) (by decide) (by decide) rfl (fun c18 => ?_) (fun c18 => ?_)
        · rw [if_neg c18] at hK
          refine o_iconst (pc' := 339) (x := (4 : Int32)) X17 hx (hb hby d1_338) (by decide) rfl ?_
          exact o_retI X17 hx hret hlk (hb hby d1_339) (by decide) (by decide) e17 (hK)
        · rw [if_pos c18] at hK
          refine o_iconst (pc' := 337) (x := (0 : Int32)) X17 hx (hb hby d1_336) (by decide) rfl ?_
          exact o_retI X17 hx hret hlk (hb hby d1_337) (by decide) (by decide) e17 (hK)
      · rw [if_pos c16] at hK
        refine o_iconst (pc' := 327) (x := (-1 : Int32)) X14 hx (hb hby d1_326) (by decide) rfl ?_
        exact o_retI X14 hx hret hlk (hb hby d1_327) (by decide) (by decide) e14 (hK)
    · rw [if_pos c15] at hK
      refine o_iconst (pc' := 311) (x := (0 : Int32)) X14 hx (hb hby d1_310) (by decide) rfl ?_
      exact o_retI X14 hx hret hlk (hb hby d1_311) (by decide) (by decide) e14 (hK)
  · rw [if_pos c13] at hK
    refine o_iconst (pc' := 301) (x := (-1 : Int32)) X hx (hb hby d1_300) (by decide) rfl ?_
    exact o_retI X hx hret hlk (hb hby d1_301) (by decide) (by decide) eT (hK)

def f1_241 (x4 : Int32) (x5 : Int32) (x6 : Int32) (x7 : Int32) (x9 : Int32) : Int32 := (if (x9 ||| (own_shl (x4 &&& (63 : Int32)) (12 : Int32))) < (65536 : Int32) then f1_284 else (if (1114111 : Int32) < (x9 ||| (own_shl (x4 &&& (63 : Int32)) (12 : Int32))) then f1_284 else (if (x9 ||| (own_shl (x4 &&& (63 : Int32)) (12 : Int32))) < (55296 : Int32) then (f1_286 x5 x6 x7) else (if (57343 : Int32) < (x9 ||| (own_shl (x4 &&& (63 : Int32)) (12 : Int32))) then (f1_286 x5 x6 x7) else f1_284))))
set_option maxRecDepth 65536 in
set_option maxHeartbeats 40000000 in
theorem b1_241 (C : own_Cx p s m meth c Z ag method_4_code 14 "com/example/fairtally/fairtally/ledger/Utf8SequenceLengthPinLaw" (some .int) "expected") {T : State} {h : Heap} {z0 : Slot} {z1 : Slot} {z2 : Slot} {z3 : Slot} {z11 : Slot} {z12 : Slot} {z13 : Slot} (x4 : Int32) (x5 : Int32) (x6 : Int32) (x7 : Int32) (x9 : Int32) (X : Stand p l e R1 s m args below meth c T [] 0 0) (eT : T.heap = h) (hz0 : One z0) (hz1 : One z1) (hz2 : One z2) (hz3 : One z3) (hz11 : One z11) (hz12 : One z12) (hz13 : One z13) (hK : K (some (.int (f1_241 x4 x5 x6 x7 x9))) h []) : own_Go p e below (own_Q s K cc1 ss1) T (mkF m 241 #[z0, z1, z2, z3, .val (.int x4), .val (.int x5), .val (.int x6), .val (.int x7), .val (.int (4 : Int32)), .val (.int x9), .val (.int (65536 : Int32)), z11, z12, z13] [(.int (12 : Int32))]) := by
  obtain ⟨hx, hZ, hw, hby, hml, hown, hret, hlk, hnm⟩ := id C
  unfold f1_241 at hK
  refine o_istoreS (pc' := 243) (l' := #[z0, z1, z2, z3, .val (.int x4), .val (.int x5), .val (.int x6), .val (.int x7), .val (.int (4 : Int32)), .val (.int x9), .val (.int (65536 : Int32)), z11, .val (.int (12 : Int32)), z13]) X hx (hb hby d1_241) rfl hz12 rfl rfl ?_
  refine o_iload (pc' := 245) X hx (hb hby d1_243) rfl rfl ?_
  refine o_iload (pc' := 247) X hx (hb hby d1_245) rfl rfl ?_
  refine o_bipush (pc' := 249) (x := (63 : Int32)) X hx (hb hby d1_247) (by decide) rfl ?_
  refine o_iand (pc' := 250)  X hx (hb hby d1_249) rfl rfl ?_
  refine o_iload (pc' := 252) X hx (hb hby d1_250) rfl rfl ?_
  refine o_ishl (pc' := 253)  X hx (hb hby d1_252) rfl rfl ?_
  refine o_ior (pc' := 254)  X hx (hb hby d1_253) rfl rfl ?_
  refine o_istoreS (pc' := 256) (l' := #[z0, z1, z2, z3, .val (.int x4), .val (.int x5), .val (.int x6), .val (.int x7), .val (.int (4 : Int32)), .val (.int x9), .val (.int (65536 : Int32)), z11, .val (.int (12 : Int32)), .val (.int (x9 ||| (own_shl (x4 &&& (63 : Int32)) (12 : Int32))))]) X hx (hb hby d1_254) rfl hz13 rfl rfl ?_
  refine o_iload (pc' := 258) X hx (hb hby d1_256) rfl rfl ?_
  refine o_iload (pc' := 260) X hx (hb hby d1_258) rfl rfl ?_
  refine o_icP (P := (x9 ||| (own_shl (x4 &&& (63 : Int32)) (12 : Int32))) < (65536 : Int32)) (pc1 := 284) (pc2 := 263) X hx XT.ii_lt_t XT.ii_lt_f (hb hby d1_260) (by decide) (by decide) rfl (fun c10 => ?_) (fun c10 => ?_)
  · rw [if_pos c10] at hK
    exact b1_284 C X eT hz0 hz1 hz2 hz3 (One.val rfl) (One.val rfl) (One.val rfl) (One.val rfl) (One.val rfl) (One.val rfl) (One.val rfl) hz11 (One.val rfl) (One.val rfl) hK
  · rw [if_neg c10] at hK
    refine o_iload (pc' := 265) X hx (hb hby d1_263) rfl rfl ?_
    refine o_ldcI (pc' := 267) X hx hZ hown (hw _ (List.mem_of_getElem? (i := 9) rfl)) (hb hby d1_265) rfl ?_
    refine o_icP (P := (1114111 : Int32) < (x9 ||| (own_shl (x4 &&& (63 : Int32)) (12 : Int32)))) (pc1 := 284) (pc2 := 270) X hx XT.ii_gt_t XT.ii_gt_f (hb hby d1_267) (by decide) (by decide) rfl (fun c11 => ?_) (fun c11 => ?_)
    · rw [if_pos c11] at hK
      exact b1_284 C X eT hz0 hz1 hz2 hz3 (One.val rfl) (One.val rfl) (One.val rfl) (One.val rfl) (One.val rfl) (One.val rfl) (One.val rfl) hz11 (One.val rfl) (One.val rfl) hK
    · rw [if_neg c11] at hK
      refine o_iload (pc' := 272) X hx (hb hby d1_270) rfl rfl ?_
      refine o_ldcI (pc' := 274) X hx hZ hown (hw _ (List.mem_of_getElem? (i := 15) rfl)) (hb hby d1_272) rfl ?_
      refine o_icP (P := (x9 ||| (own_shl (x4 &&& (63 : Int32)) (12 : Int32))) < (55296 : Int32)) (pc1 := 286) (pc2 := 277) X hx XT.ii_lt_t XT.ii_lt_f (hb hby d1_274) (by decide) (by decide) rfl (fun c12 => ?_) (fun c12 => ?_)
      · rw [if_pos c12] at hK
        exact b1_286 C x5 x6 x7 X eT hz0 hz1 hz2 hz3 (One.val rfl) (One.val rfl) (One.val rfl) hz11 (One.val rfl) (One.val rfl) hK
      · rw [if_neg c12] at hK
        refine o_iload (pc' := 279) X hx (hb hby d1_277) rfl rfl ?_
        refine o_ldcI (pc' := 281) X hx hZ hown (hw _ (List.mem_of_getElem? (i := 16) rfl)) (hb hby d1_279) rfl ?_
        refine o_icP (P := (57343 : Int32) < (x9 ||| (own_shl (x4 &&& (63 : Int32)) (12 : Int32)))) (pc1 := 286) (pc2 := 284) X hx XT.ii_gt_t XT.ii_gt_f (hb hby d1_281) (by decide) (by decide) rfl (fun c19 => ?_) (fun c19 => ?_)
        · rw [if_pos c19] at hK
          exact b1_286 C x5 x6 x7 X eT hz0 hz1 hz2 hz3 (One.val rfl) (One.val rfl) (One.val rfl) hz11 (One.val rfl) (One.val rfl) hK
        · rw [if_neg c19] at hK
          exact b1_284 C X eT hz0 hz1 hz2 hz3 (One.val rfl) (One.val rfl) (One.val rfl) (One.val rfl) (One.val rfl) (One.val rfl) (One.val rfl) hz11 (One.val rfl) (One.val rfl) hK

def f1_179 (x4 : Int32) (x5 : Int32) (x6 : Int32) (x7 : Int32) (x9 : Int32) : Int32 := (if (x9 + (262143 : Int32)) < (65536 : Int32) then f1_198 else (if (1114111 : Int32) < x9 then f1_198 else (if x7 < (2 : Int32) then (-1 : Int32) else (if (f3_0 x4) = (0 : Int32) then (0 : Int32) else (f1_241 x4 x5 x6 x7 x9)))))
set_option maxRecDepth 65536 in
set_option maxHeartbeats 40000000 in
theorem b1_179 (C : own_Cx p s m meth c Z ag method_4_code 14 "com/example/fairtally/fairtally/ledger/Utf8SequenceLengthPinLaw" (some .int) "expected") {T : State} {h : Heap} {z0 : Slot} {z1 : Slot} {z2 : Slot} {z3 : Slot} {z11 : Slot} {z12 : Slot} {z13 : Slot} (x4 : Int32) (x5 : Int32) (x6 : Int32) (x7 : Int32) (x9 : Int32) (X : Stand p l e R1 s m args below meth c T [] 0 0) (eT : T.heap = h) (hz0 : One z0) (hz1 : One z1) (hz2 : One z2) (hz3 : One z3) (hz11 : One z11) (hz12 : One z12) (hz13 : One z13) (hK : K (some (.int (f1_179 x4 x5 x6 x7 x9))) h []) : own_Go p e below (own_Q s K cc1 ss1) T (mkF m 179 #[z0, z1, z2, z3, .val (.int x4), .val (.int x5), .val (.int x6), .val (.int x7), .val (.int (4 : Int32)), .val (.int x9), .val (.int (65536 : Int32)), z11, z12, z13] [(.int (262143 : Int32))]) := by
  obtain ⟨hx, hZ, hw, hby, hml, hown, hret, hlk, hnm⟩ := id C
  unfold f1_179 at hK
  refine o_istoreS (pc' := 181) (l' := #[z0, z1, z2, z3, .val (.int x4), .val (.int x5), .val (.int x6), .val (.int x7), .val (.int (4 : Int32)), .val (.int x9), .val (.int (65536 : Int32)), .val (.int (262143 : Int32)), z12, z13]) X hx (hb hby d1_179) rfl hz11 rfl rfl ?_
  refine o_iload (pc' := 183) X hx (hb hby d1_181) rfl rfl ?_
  refine o_iload (pc' := 185) X hx (hb hby d1_183) rfl rfl ?_
  refine o_iadd (pc' := 186)  X hx (hb hby d1_185) rfl rfl ?_
  refine o_iload (pc' := 188) X hx (hb hby d1_186) rfl rfl ?_
  refine o_icP (P := (x9 + (262143 : Int32)) < (65536 : Int32)) (pc1 := 198) (pc2 := 191) X hx XT.ii_lt_t XT.ii_lt_f (hb hby d1_188) (by decide) (by decide) rfl (fun c5 => ?_) (fun c5 => ?_)
  · rw [if_pos c5] at hK
    exact b1_198 C X eT hz0 hz1 hz2 hz3 (One.val rfl) (One.val rfl) (One.val rfl) (One.val rfl) (One.val rfl) (One.val rfl) (One.val rfl) (One.val rfl) hz12 hz13 hK
  · rw [if_neg c5] at hK
    refine o_iload (pc' := 193) X hx (hb hby d1_191) rfl rfl ?_
    refine o_ldcI (pc' := 195) X hx hZ hown (hw _ (List.mem_of_getElem? (i := 9) rfl)) (hb hby d1_193) rfl ?_
    refine o_icN (P := (1114111 : Int32) < x9) (pc1 := 200) (pc2 := 198) X hx XT.ii_le_f XT.ii_le_t (hb hby d1_195) (by decide) (by decide) rfl (fun c6 => ?_) (fun c6 => ?_)
    · rw [if_neg c6] at hK
      refine o_iload (pc' := 202) X hx (hb hby d1_200) rfl rfl ?_
      refine o_iconst (pc' := 203) (x := (2 : Int32)) X hx (hb hby d1_202) (by decide) rfl ?_
      refine o_icN (P := x7 < (2 : Int32)) (pc1 := 208) (pc2 := 206) X hx XT.ii_ge_f XT.ii_ge_t (hb hby d1_203) (by decide) (by decide) rfl (fun c7 => ?_) (fun c7 => ?_)
      · rw [if_neg c7] at hK
        refine o_iload (pc' := 210) X hx (hb hby d1_208) rfl rfl ?_
        refine o_callP (W := 0) (pc' := 213) (argsL := [(.int x4)]) (rest := []) (st' := [(.int (f3_0 x4))]) X hx hZ eT hown (hw _ (List.mem_of_getElem? (i := 10) rfl)) (hw _ (List.mem_of_getElem? (i := 11) rfl)) (hw _ (List.mem_of_getElem? (i := 3) rfl)) (hw _ (List.mem_of_getElem? (i := 12) rfl)) (by decide) (rm3 l Z ag hw [] x4 h) (by decide) (by decide) (by rw [hml]; rfl) pd_0 rfl rfl rfl rfl (hb hby d1_210) rfl rfl rfl (by decide) (by decide) rfl fun T8 X8 e8 => ?_
        refine o_ifN (P := (f3_0 x4) = (0 : Int32)) (pc1 := 218) (pc2 := 216) X8 hx XT.i0_ne_f XT.i0_ne_t (hb hby d1_213) (by decide) (by decide) rfl (fun c9 => ?_) (fun c9 => ?_)
        · rw [if_neg c9] at hK
          refine o_iload (pc' := 220) X8 hx (hb hby d1_218) rfl rfl ?_
          refine o_iconst (pc' := 221) (x := (2 : Int32)) X8 hx (hb hby d1_220) (by decide) rfl ?_
          refine o_icY (pc' := 228) X8 hx (by decide) (hb hby d1_221) (by decide) (by decide) ?_
          refine o_iload (pc' := 230) X8 hx (hb hby d1_228) rfl rfl ?_
          refine o_iconst (pc' := 231) (x := (3 : Int32)) X8 hx (hb hby d1_230) (by decide) rfl ?_
          refine o_icY (pc' := 239) X8 hx (by decide) (hb hby d1_231) (by decide) (by decide) ?_
          refine o_bipush (pc' := 241) (x := (12 : Int32)) X8 hx (hb hby d1_239) (by decide) rfl ?_
          exact b1_241 C x4 x5 x6 x7 x9 X8 e8 hz0 hz1 hz2 hz3 (One.val rfl) hz12 hz13 hK
        · rw [if_pos c9] at hK
          refine o_iconst (pc' := 217) (x := (0 : Int32)) X8 hx (hb hby d1_216) (by decide) rfl ?_
          exact o_retI X8 hx hret hlk (hb hby d1_217) (by decide) (by decide) e8 (hK)
      · rw [if_pos c7] at hK
        refine o_iconst (pc' := 207) (x := (-1 : Int32)) X hx (hb hby d1_206) (by decide) rfl ?_
        exact o_retI X hx hret hlk (hb hby d1_207) (by decide) (by decide) eT (hK)
    · rw [if_pos c6] at hK
      exact b1_198 C X eT hz0 hz1 hz2 hz3 (One.val rfl) (One.val rfl) (One.val rfl) (One.val rfl) (One.val rfl) (One.val rfl) (One.val rfl) (One.val rfl) hz12 hz13 hK

def f1_152 (x4 : Int32) (x5 : Int32) (x6 : Int32) (x7 : Int32) (x9 : Int32) : Int32 := (f1_179 x4 x5 x6 x7 x9)
set_option maxRecDepth 65536 in
set_option maxHeartbeats 40000000 in
theorem b1_152 (C : own_Cx p s m meth c Z ag method_4_code 14 "com/example/fairtally/fairtally/ledger/Utf8SequenceLengthPinLaw" (some .int) "expected") {T : State} {h : Heap} {z0 : Slot} {z1 : Slot} {z2 : Slot} {z3 : Slot} {z10 : Slot} {z11 : Slot} {z12 : Slot} {z13 : Slot} (x4 : Int32) (x5 : Int32) (x6 : Int32) (x7 : Int32) (x9 : Int32) (X : Stand p l e R1 s m args below meth c T [] 0 0) (eT : T.heap = h) (hz0 : One z0) (hz1 : One z1) (hz2 : One z2) (hz3 : One z3) (hz10 : One z10) (hz11 : One z11) (hz12 : One z12) (hz13 : One z13) (hK : K (some (.int (f1_152 x4 x5 x6 x7 x9))) h []) : own_Go p e below (own_Q s K cc1 ss1) T (mkF m 152 #[z0, z1, z2, z3, .val (.int x4), .val (.int x5), .val (.int x6), .val (.int x7), .val (.int (4 : Int32)), .val (.int x9), z10, z11, z12, z13] [(.int (65536 : Int32))]) := by
  obtain ⟨hx, hZ, hw, hby, hml, hown, hret, hlk, hnm⟩ := id C
  unfold f1_152 at hK
  refine o_istoreS (pc' := 154) (l' := #[z0, z1, z2, z3, .val (.int x4), .val (.int x5), .val (.int x6), .val (.int x7), .val (.int (4 : Int32)), .val (.int x9), .val (.int (65536 : Int32)), z11, z12, z13]) X hx (hb hby d1_152) rfl hz10 rfl rfl ?_
  refine o_iload (pc' := 156) X hx (hb hby d1_154) rfl rfl ?_
  refine o_iconst (pc' := 157) (x := (2 : Int32)) X hx (hb hby d1_156) (by decide) rfl ?_
  refine o_icY (pc' := 165) X hx (by decide) (hb hby d1_157) (by decide) (by decide) ?_
  refine o_iload (pc' := 167) X hx (hb hby d1_165) rfl rfl ?_
  refine o_iconst (pc' := 168) (x := (3 : Int32)) X hx (hb hby d1_167) (by decide) rfl ?_
  refine o_icY (pc' := 177) X hx (by decide) (hb hby d1_168) (by decide) (by decide) ?_
  refine o_ldcI (pc' := 179) X hx hZ hown (hw _ (List.mem_of_getElem? (i := 14) rfl)) (hb hby d1_177) rfl ?_
  exact b1_179 C x4 x5 x6 x7 x9 X eT hz0 hz1 hz2 hz3 hz11 hz12 hz13 hK

def f1_126 (x4 : Int32) (x5 : Int32) (x6 : Int32) (x7 : Int32) (x9 : Int32) : Int32 := (f1_152 x4 x5 x6 x7 x9)
set_option maxRecDepth 65536 in
set_option maxHeartbeats 40000000 in
theorem b1_126 (C : own_Cx p s m meth c Z ag method_4_code 14 "com/example/fairtally/fairtally/ledger/Utf8SequenceLengthPinLaw" (some .int) "expected") {T : State} {h : Heap} {z0 : Slot} {z1 : Slot} {z2 : Slot} {z3 : Slot} {z10 : Slot} {z11 : Slot} {z12 : Slot} {z13 : Slot} (x4 : Int32) (x5 : Int32) (x6 : Int32) (x7 : Int32) (x9 : Int32) (X : Stand p l e R1 s m args below meth c T [] 0 0) (eT : T.heap = h) (hz0 : One z0) (hz1 : One z1) (hz2 : One z2) (hz3 : One z3) (hz10 : One z10) (hz11 : One z11) (hz12 : One z12) (hz13 : One z13) (hK : K (some (.int (f1_126 x4 x5 x6 x7 x9))) h []) : own_Go p e below (own_Q s K cc1 ss1) T (mkF m 126 #[z0, z1, z2, z3, .val (.int x4), .val (.int x5), .val (.int x6), .val (.int x7), .val (.int (4 : Int32)), .val (.int x9), z10, z11, z12, z13] []) := by
  obtain ⟨hx, hZ, hw, hby, hml, hown, hret, hlk, hnm⟩ := id C
  unfold f1_126 at hK
  refine o_iload (pc' := 128) X hx (hb hby d1_126) rfl rfl ?_
  refine o_iconst (pc' := 129) (x := (2 : Int32)) X hx (hb hby d1_128) (by decide) rfl ?_
  refine o_icY (pc' := 138) X hx (by decide) (hb hby d1_129) (by decide) (by decide) ?_
  refine o_iload (pc' := 140) X hx (hb hby d1_138) rfl rfl ?_
  refine o_iconst (pc' := 141) (x := (3 : Int32)) X hx (hb hby d1_140) (by decide) rfl ?_
  refine o_icY (pc' := 150) X hx (by decide) (hb hby d1_141) (by decide) (by decide) ?_
  refine o_ldcI (pc' := 152) X hx hZ hown (hw _ (List.mem_of_getElem? (i := 13) rfl)) (hb hby d1_150) rfl ?_
  exact b1_152 C x4 x5 x6 x7 x9 X eT hz0 hz1 hz2 hz3 hz10 hz11 hz12 hz13 hK

def f1_286_12 (x5 : Int32) (x6 : Int32) (x7 : Int32) : Int32 := (if x7 < (3 : Int32) then (-1 : Int32) else (if (f3_0 x5) = (0 : Int32) then (0 : Int32) else (3 : Int32)))
set_option maxRecDepth 65536 in
set_option maxHeartbeats 40000000 in
theorem b1_286_12 (C : own_Cx p s m meth c Z ag method_4_code 14 "com/example/fairtally/fairtally/ledger/Utf8SequenceLengthPinLaw" (some .int) "expected") {T : State} {h : Heap} {z0 : Slot} {z1 : Slot} {z2 : Slot} {z3 : Slot} {z4 : Slot} {z9 : Slot} {z10 : Slot} {z11 : Slot} {z12 : Slot} {z13 : Slot} (x5 : Int32) (x6 : Int32) (x7 : Int32) (X : Stand p l e R1 s m args below meth c T [] 0 0) (eT : T.heap = h) (hz0 : One z0) (hz1 : One z1) (hz2 : One z2) (hz3 : One z3) (hz4 : One z4) (hz9 : One z9) (hz10 : One z10) (hz11 : One z11) (hz12 : One z12) (hz13 : One z13) (hK : K (some (.int (f1_286_12 x5 x6 x7))) h []) : own_Go p e below (own_Q s K cc1 ss1) T (mkF m 286 #[z0, z1, z2, z3, z4, .val (.int x5), .val (.int x6), .val (.int x7), .val (.int (3 : Int32)), z9, z10, z11, z12, z13] []) := by
  obtain ⟨hx, hZ, hw, hby, hml, hown, hret, hlk, hnm⟩ := id C
  unfold f1_286_12 at hK
  refine o_iload (pc' := 288) X hx (hb hby d1_286) rfl rfl ?_
  refine o_iconst (pc' := 289) (x := (2 : Int32)) X hx (hb hby d1_288) (by decide) rfl ?_
  refine o_icY (pc' := 294) X hx (by decide) (hb hby d1_289) (by decide) (by decide) ?_
  refine o_iload (pc' := 296) X hx (hb hby d1_294) rfl rfl ?_
  refine o_iconst (pc' := 297) (x := (3 : Int32)) X hx (hb hby d1_296) (by decide) rfl ?_
  refine o_icN (P := x7 < (3 : Int32)) (pc1 := 302) (pc2 := 300) X hx XT.ii_ge_f XT.ii_ge_t (hb hby d1_297) (by decide) (by decide) rfl (fun c28 => ?_) (fun c28 => ?_)
  · rw [if_neg c28] at hK
    refine o_iload (pc' := 304) X hx (hb hby d1_302) rfl rfl ?_
    refine o_callP (W := 0) (pc' := 307) (argsL := [(.int x5)]) (rest := []) (st' := [(.int (f3_0 x5))]) X hx hZ eT hown (hw _ (List.mem_of_getElem? (i := 10) rfl)) (hw _ (List.mem_of_getElem? (i := 11) rfl)) (hw _ (List.mem_of_getElem? (i := 3) rfl)) (hw _ (List.mem_of_getElem? (i := 12) rfl)) (by decide) (rm3 l Z ag hw [] x5 h) (by decide) (by decide) (by rw [hml]; rfl) pd_0 rfl rfl rfl rfl (hb hby d1_304) rfl rfl rfl (by decide) (by decide) rfl fun T29 X29 e29 => ?_
    refine o_ifN (P := (f3_0 x5) = (0 : Int32)) (pc1 := 312) (pc2 := 310) X29 hx XT.i0_ne_f XT.i0_ne_t (hb hby d1_307) (by decide) (by decide) rfl (fun c30 => ?_) (fun c30 => ?_)
    · rw [if_neg c30] at hK
      refine o_iload (pc' := 314) X29 hx (hb hby d1_312) rfl rfl ?_
      refine o_iconst (pc' := 315) (x := (3 : Int32)) X29 hx (hb hby d1_314) (by decide) rfl ?_
      refine o_icX (pc' := 318) X29 hx (by decide) (hb hby d1_315) rfl ?_
      refine o_iconst (pc' := 319) (x := (3 : Int32)) X29 hx (hb hby d1_318) (by decide) rfl ?_
      exact o_retI X29 hx hret hlk (hb hby d1_319) (by decide) (by decide) e29 (hK)
    · rw [if_pos c30] at hK
      refine o_iconst (pc' := 311) (x := (0 : Int32)) X29 hx (hb hby d1_310) (by decide) rfl ?_
      exact o_retI X29 hx hret hlk (hb hby d1_311) (by decide) (by decide) e29 (hK)
  · rw [if_pos c28] at hK
    refine o_iconst (pc' := 301) (x := (-1 : Int32)) X hx (hb hby d1_300) (by decide) rfl ?_
    exact o_retI X hx hret hlk (hb hby d1_301) (by decide) (by decide) eT (hK)

def f1_241_11 (x4 : Int32) (x5 : Int32) (x6 : Int32) (x7 : Int32) (x9 : Int32) : Int32 := (if (x9 ||| (own_shl (x4 &&& (63 : Int32)) (6 : Int32))) < (2048 : Int32) then f1_284 else (if (1114111 : Int32) < (x9 ||| (own_shl (x4 &&& (63 : Int32)) (6 : Int32))) then f1_284 else (if (x9 ||| (own_shl (x4 &&& (63 : Int32)) (6 : Int32))) < (55296 : Int32) then (f1_286_12 x5 x6 x7) else (if (57343 : Int32) < (x9 ||| (own_shl (x4 &&& (63 : Int32)) (6 : Int32))) then (f1_286_12 x5 x6 x7) else f1_284))))
set_option maxRecDepth 65536 in
set_option maxHeartbeats 40000000 in
theorem b1_241_11 (C : own_Cx p s m meth c Z ag method_4_code 14 "com/example/fairtally/fairtally/ledger/Utf8SequenceLengthPinLaw" (some .int) "expected") {T : State} {h : Heap} {z0 : Slot} {z1 : Slot} {z2 : Slot} {z3 : Slot} {z11 : Slot} {z12 : Slot} {z13 : Slot} (x4 : Int32) (x5 : Int32) (x6 : Int32) (x7 : Int32) (x9 : Int32) (X : Stand p l e R1 s m args below meth c T [] 0 0) (eT : T.heap = h) (hz0 : One z0) (hz1 : One z1) (hz2 : One z2) (hz3 : One z3) (hz11 : One z11) (hz12 : One z12) (hz13 : One z13) (hK : K (some (.int (f1_241_11 x4 x5 x6 x7 x9))) h []) : own_Go p e below (own_Q s K cc1 ss1) T (mkF m 241 #[z0, z1, z2, z3, .val (.int x4), .val (.int x5), .val (.int x6), .val (.int x7), .val (.int (3 : Int32)), .val (.int x9), .val (.int (2048 : Int32)), z11, z12, z13] [(.int (6 : Int32))]) := by
  obtain ⟨hx, hZ, hw, hby, hml, hown, hret, hlk, hnm⟩ := id C
  unfold f1_241_11 at hK
  refine o_istoreS (pc' := 243) (l' := #[z0, z1, z2, z3, .val (.int x4), .val (.int x5), .val (.int x6), .val (.int x7), .val (.int (3 : Int32)), .val (.int x9), .val (.int (2048 : Int32)), z11, .val (.int (6 : Int32)), z13]) X hx (hb hby d1_241) rfl hz12 rfl rfl ?_
  refine o_iload (pc' := 245) X hx (hb hby d1_243) rfl rfl ?_
  refine o_iload (pc' := 247) X hx (hb hby d1_245) rfl rfl ?_
  refine o_bipush (pc' := 249) (x := (63 : Int32)) X hx (hb hby d1_247) (by decide) rfl ?_
  refine o_iand (pc' := 250)  X hx (hb hby d1_249) rfl rfl ?_
  refine o_iload (pc' := 252) X hx (hb hby d1_250) rfl rfl ?_
  refine o_ishl (pc' := 253)  X hx (hb hby d1_252) rfl rfl ?_
  refine o_ior (pc' := 254)  X hx (hb hby d1_253) rfl rfl ?_
  refine o_istoreS (pc' := 256) (l' := #[z0, z1, z2, z3, .val (.int x4), .val (.int x5), .val (.int x6), .val (.int x7), .val (.int (3 : Int32)), .val (.int x9), .val (.int (2048 : Int32)), z11, .val (.int (6 : Int32)), .val (.int (x9 ||| (own_shl (x4 &&& (63 : Int32)) (6 : Int32))))]) X hx (hb hby d1_254) rfl hz13 rfl rfl ?_
  refine o_iload (pc' := 258) X hx (hb hby d1_256) rfl rfl ?_
  refine o_iload (pc' := 260) X hx (hb hby d1_258) rfl rfl ?_
  refine o_icP (P := (x9 ||| (own_shl (x4 &&& (63 : Int32)) (6 : Int32))) < (2048 : Int32)) (pc1 := 284) (pc2 := 263) X hx XT.ii_lt_t XT.ii_lt_f (hb hby d1_260) (by decide) (by decide) rfl (fun c25 => ?_) (fun c25 => ?_)
  · rw [if_pos c25] at hK
    exact b1_284 C X eT hz0 hz1 hz2 hz3 (One.val rfl) (One.val rfl) (One.val rfl) (One.val rfl) (One.val rfl) (One.val rfl) (One.val rfl) hz11 (One.val rfl) (One.val rfl) hK
  · rw [if_neg c25] at hK
    refine o_iload (pc' := 265) X hx (hb hby d1_263) rfl rfl ?_
    refine o_ldcI (pc' := 267) X hx hZ hown (hw _ (List.mem_of_getElem? (i := 9) rfl)) (hb hby d1_265) rfl ?_
    refine o_icP (P := (1114111 : Int32) < (x9 ||| (own_shl (x4 &&& (63 : Int32)) (6 : Int32)))) (pc1 := 284) (pc2 := 270) X hx XT.ii_gt_t XT.ii_gt_f (hb hby d1_267) (by decide) (by decide) rfl (fun c26 => ?_) (fun c26 => ?_)
    · rw [if_pos c26] at hK
      exact b1_284 C X eT hz0 hz1 hz2 hz3 (One.val rfl) (One.val rfl) (One.val rfl) (One.val rfl) (One.val rfl) (One.val rfl) (One.val rfl) hz11 (One.val rfl) (One.val rfl) hK
    · rw [if_neg c26] at hK
      refine o_iload (pc' := 272) X hx (hb hby d1_270) rfl rfl ?_
      refine o_ldcI (pc' := 274) X hx hZ hown (hw _ (List.mem_of_getElem? (i := 15) rfl)) (hb hby d1_272) rfl ?_
      refine o_icP (P := (x9 ||| (own_shl (x4 &&& (63 : Int32)) (6 : Int32))) < (55296 : Int32)) (pc1 := 286) (pc2 := 277) X hx XT.ii_lt_t XT.ii_lt_f (hb hby d1_274) (by decide) (by decide) rfl (fun c27 => ?_) (fun c27 => ?_)
      · rw [if_pos c27] at hK
        exact b1_286_12 C x5 x6 x7 X eT hz0 hz1 hz2 hz3 (One.val rfl) (One.val rfl) (One.val rfl) hz11 (One.val rfl) (One.val rfl) hK
      · rw [if_neg c27] at hK
        refine o_iload (pc' := 279) X hx (hb hby d1_277) rfl rfl ?_
        refine o_ldcI (pc' := 281) X hx hZ hown (hw _ (List.mem_of_getElem? (i := 16) rfl)) (hb hby d1_279) rfl ?_
        refine o_icP (P := (57343 : Int32) < (x9 ||| (own_shl (x4 &&& (63 : Int32)) (6 : Int32)))) (pc1 := 286) (pc2 := 284) X hx XT.ii_gt_t XT.ii_gt_f (hb hby d1_281) (by decide) (by decide) rfl (fun c31 => ?_) (fun c31 => ?_)
        · rw [if_pos c31] at hK
          exact b1_286_12 C x5 x6 x7 X eT hz0 hz1 hz2 hz3 (One.val rfl) (One.val rfl) (One.val rfl) hz11 (One.val rfl) (One.val rfl) hK
        · rw [if_neg c31] at hK
          exact b1_284 C X eT hz0 hz1 hz2 hz3 (One.val rfl) (One.val rfl) (One.val rfl) (One.val rfl) (One.val rfl) (One.val rfl) (One.val rfl) hz11 (One.val rfl) (One.val rfl) hK

def f1_179_10 (x4 : Int32) (x5 : Int32) (x6 : Int32) (x7 : Int32) (x9 : Int32) : Int32 := (if (x9 + (4095 : Int32)) < (2048 : Int32) then f1_198 else (if (1114111 : Int32) < x9 then f1_198 else (if x7 < (2 : Int32) then (-1 : Int32) else (if (f3_0 x4) = (0 : Int32) then (0 : Int32) else (f1_241_11 x4 x5 x6 x7 x9)))))
set_option maxRecDepth 65536 in
set_option maxHeartbeats 40000000 in
theorem b1_179_10 (C : own_Cx p s m meth c Z ag method_4_code 14 "com/example/fairtally/fairtally/ledger/Utf8SequenceLengthPinLaw" (some .int) "expected") {T : State} {h : Heap} {z0 : Slot} {z1 : Slot} {z2 : Slot} {z3 : Slot} {z11 : Slot} {z12 : Slot} {z13 : Slot} (x4 : Int32) (x5 : Int32) (x6 : Int32) (x7 : Int32) (x9 : Int32) (X : Stand p l e R1 s m args below meth c T [] 0 0) (eT : T.heap = h) (hz0 : One z0) (hz1 : One z1) (hz2 : One z2) (hz3 : One z3) (hz11 : One z11) (hz12 : One z12) (hz13 : One z13) (hK : K (some (.int (f1_179_10 x4 x5 x6 x7 x9))) h []) : own_Go p e below (own_Q s K cc1 ss1) T (mkF m 179 #[z0, z1, z2, z3, .val (.int x4), .val (.int x5), .val (.int x6), .val (.int x7), .val (.int (3 : Int32)), .val (.int x9), .val (.int (2048 : Int32)), z11, z12, z13] [(.int (4095 : Int32))]) := by
  obtain ⟨hx, hZ, hw, hby, hml, hown, hret, hlk, hnm⟩ := id C
  unfold f1_179_10 at hK
  refine o_istoreS (pc' := 181) (l' := #[z0, z1, z2, z3, .val (.int x4), .val (.int x5), .val (.int x6), .val (.int x7), .val (.int (3 : Int32)), .val (.int x9), .val (.int (2048 : Int32)), .val (.int (4095 : Int32)), z12, z13]) X hx (hb hby d1_179) rfl hz11 rfl rfl ?_
  refine o_iload (pc' := 183) X hx (hb hby d1_181) rfl rfl ?_
  refine o_iload (pc' := 185) X hx (hb hby d1_183) rfl rfl ?_
  refine o_iadd (pc' := 186)  X hx (hb hby d1_185) rfl rfl ?_
  refine o_iload (pc' := 188) X hx (hb hby d1_186) rfl rfl ?_
  refine o_icP (P := (x9 + (4095 : Int32)) < (2048 : Int32)) (pc1 := 198) (pc2 := 191) X hx XT.ii_lt_t XT.ii_lt_f (hb hby d1_188) (by decide) (by decide) rfl (fun c20 => ?_) (fun c20 => ?_)
  · rw [if_pos c20] at hK
    exact b1_198 C X eT hz0 hz1 hz2 hz3 (One.val rfl) (One.val rfl) (One.val rfl) (One.val rfl) (One.val rfl) (One.val rfl) (One.val rfl) (One.val rfl) hz12 hz13 hK
  · rw [if_neg c20] at hK
    refine o_iload (pc' := 193) X hx (hb hby d1_191) rfl rfl ?_
    refine o_ldcI (pc' := 195) X hx hZ hown (hw _ (List.mem_of_getElem? (i := 9) rfl)) (hb hby d1_193) rfl ?_
    refine o_icN (P := (1114111 : Int32) < x9) (pc1 := 200) (pc2 := 198) X hx XT.ii_le_f XT.ii_le_t (hb hby d1_195) (by decide) (by decide) rfl (fun c21 => ?_) (fun c21 => ?_)
    · rw [if_neg c21] at hK
      refine o_iload (pc' := 202) X hx (hb hby d1_200) rfl rfl ?_
      refine o_iconst (pc' := 203) (x := (2 : Int32)) X hx (hb hby d1_202) (by decide) rfl ?_
      refine o_icN (P := x7 < (2 : Int32)) (pc1 := 208) (pc2 := 206) X hx XT.ii_ge_f XT.ii_ge_t (hb hby d1_203) (by decide) (by decide) rfl (fun c22 => ?_) (fun c22 => ?_)
      · rw [if_neg c22] at hK
        refine o_iload (pc' := 210) X hx (hb hby d1_208) rfl rfl ?_
        refine o_callP (W := 0) (pc' := 213) (argsL := [(.int x4)]) (rest := []) (st' := [(.int (f3_0 x4))]) X hx hZ eT hown (hw _ (List.mem_of_getElem? (i := 10) rfl)) (hw _ (List.mem_of_getElem? (i := 11) rfl)) (hw _ (List.mem_of_getElem? (i := 3) rfl)) (hw _ (List.mem_of_getElem? (i := 12) rfl)) (by decide) (rm3 l Z ag hw [] x4 h) (by decide) (by decide) (by rw [hml]; rfl) pd_0 rfl rfl rfl rfl (hb hby d1_210) rfl rfl rfl (by decide) (by decide) rfl fun T23 X23 e23 => ?_
        refine o_ifN (P := (f3_0 x4) = (0 : Int32)) (pc1 := 218) (pc2 := 216) X23 hx XT.i0_ne_f XT.i0_ne_t (hb hby d1_213) (by decide) (by decide) rfl (fun c24 => ?_) (fun c24 => ?_)
        · rw [if_neg c24] at hK
          refine o_iload (pc' := 220) X23 hx (hb hby d1_218) rfl rfl ?_
          refine o_iconst (pc' := 221) (x := (2 : Int32)) X23 hx (hb hby d1_220) (by decide) rfl ?_
          refine o_icY (pc' := 228) X23 hx (by decide) (hb hby d1_221) (by decide) (by decide) ?_
          refine o_iload (pc' := 230) X23 hx (hb hby d1_228) rfl rfl ?_
          refine o_iconst (pc' := 231) (x := (3 : Int32)) X23 hx (hb hby d1_230) (by decide) rfl ?_
          refine o_icX (pc' := 234) X23 hx (by decide) (hb hby d1_231) rfl ?_
          refine o_bipush (pc' := 236) (x := (6 : Int32)) X23 hx (hb hby d1_234) (by decide) rfl ?_
          refine o_goto (pc' := 241) X23 hx (hb hby d1_236) (by decide) (by decide) ?_
          exact b1_241_11 C x4 x5 x6 x7 x9 X23 e23 hz0 hz1 hz2 hz3 (One.val rfl) hz12 hz13 hK
        · rw [if_pos c24] at hK
          refine o_iconst (pc' := 217) (x := (0 : Int32)) X23 hx (hb hby d1_216) (by decide) rfl ?_
          exact o_retI X23 hx hret hlk (hb hby d1_217) (by decide) (by decide) e23 (hK)
      · rw [if_pos c22] at hK
        refine o_iconst (pc' := 207) (x := (-1 : Int32)) X hx (hb hby d1_206) (by decide) rfl ?_
        exact o_retI X hx hret hlk (hb hby d1_207) (by decide) (by decide) eT (hK)
    · rw [if_pos c21] at hK
      exact b1_198 C X eT hz0 hz1 hz2 hz3 (One.val rfl) (One.val rfl) (One.val rfl) (One.val rfl) (One.val rfl) (One.val rfl) (One.val rfl) (One.val rfl) hz12 hz13 hK

def f1_152_9 (x4 : Int32) (x5 : Int32) (x6 : Int32) (x7 : Int32) (x9 : Int32) : Int32 := (f1_179_10 x4 x5 x6 x7 x9)
set_option maxRecDepth 65536 in
set_option maxHeartbeats 40000000 in
theorem b1_152_9 (C : own_Cx p s m meth c Z ag method_4_code 14 "com/example/fairtally/fairtally/ledger/Utf8SequenceLengthPinLaw" (some .int) "expected") {T : State} {h : Heap} {z0 : Slot} {z1 : Slot} {z2 : Slot} {z3 : Slot} {z10 : Slot} {z11 : Slot} {z12 : Slot} {z13 : Slot} (x4 : Int32) (x5 : Int32) (x6 : Int32) (x7 : Int32) (x9 : Int32) (X : Stand p l e R1 s m args below meth c T [] 0 0) (eT : T.heap = h) (hz0 : One z0) (hz1 : One z1) (hz2 : One z2) (hz3 : One z3) (hz10 : One z10) (hz11 : One z11) (hz12 : One z12) (hz13 : One z13) (hK : K (some (.int (f1_152_9 x4 x5 x6 x7 x9))) h []) : own_Go p e below (own_Q s K cc1 ss1) T (mkF m 152 #[z0, z1, z2, z3, .val (.int x4), .val (.int x5), .val (.int x6), .val (.int x7), .val (.int (3 : Int32)), .val (.int x9), z10, z11, z12, z13] [(.int (2048 : Int32))]) := by
  obtain ⟨hx, hZ, hw, hby, hml, hown, hret, hlk, hnm⟩ := id C
  unfold f1_152_9 at hK
  refine o_istoreS (pc' := 154) (l' := #[z0, z1, z2, z3, .val (.int x4), .val (.int x5), .val (.int x6), .val (.int x7), .val (.int (3 : Int32)), .val (.int x9), .val (.int (2048 : Int32)), z11, z12, z13]) X hx (hb hby d1_152) rfl hz10 rfl rfl ?_
  refine o_iload (pc' := 156) X hx (hb hby d1_154) rfl rfl ?_
  refine o_iconst (pc' := 157) (x := (2 : Int32)) X hx (hb hby d1_156) (by decide) rfl ?_
  refine o_icY (pc' := 165) X hx (by decide) (hb hby d1_157) (by decide) (by decide) ?_
  refine o_iload (pc' := 167) X hx (hb hby d1_165) rfl rfl ?_
  refine o_iconst (pc' := 168) (x := (3 : Int32)) X hx (hb hby d1_167) (by decide) rfl ?_
  refine o_icX (pc' := 171) X hx (by decide) (hb hby d1_168) rfl ?_
  refine o_sipush (pc' := 174) (x := (4095 : Int32)) X hx (hb hby d1_171) (by decide) rfl ?_
  refine o_goto (pc' := 179) X hx (hb hby d1_174) (by decide) (by decide) ?_
  exact b1_179_10 C x4 x5 x6 x7 x9 X eT hz0 hz1 hz2 hz3 hz11 hz12 hz13 hK

def f1_126_8 (x4 : Int32) (x5 : Int32) (x6 : Int32) (x7 : Int32) (x9 : Int32) : Int32 := (f1_152_9 x4 x5 x6 x7 x9)
set_option maxRecDepth 65536 in
set_option maxHeartbeats 40000000 in
theorem b1_126_8 (C : own_Cx p s m meth c Z ag method_4_code 14 "com/example/fairtally/fairtally/ledger/Utf8SequenceLengthPinLaw" (some .int) "expected") {T : State} {h : Heap} {z0 : Slot} {z1 : Slot} {z2 : Slot} {z3 : Slot} {z10 : Slot} {z11 : Slot} {z12 : Slot} {z13 : Slot} (x4 : Int32) (x5 : Int32) (x6 : Int32) (x7 : Int32) (x9 : Int32) (X : Stand p l e R1 s m args below meth c T [] 0 0) (eT : T.heap = h) (hz0 : One z0) (hz1 : One z1) (hz2 : One z2) (hz3 : One z3) (hz10 : One z10) (hz11 : One z11) (hz12 : One z12) (hz13 : One z13) (hK : K (some (.int (f1_126_8 x4 x5 x6 x7 x9))) h []) : own_Go p e below (own_Q s K cc1 ss1) T (mkF m 126 #[z0, z1, z2, z3, .val (.int x4), .val (.int x5), .val (.int x6), .val (.int x7), .val (.int (3 : Int32)), .val (.int x9), z10, z11, z12, z13] []) := by
  obtain ⟨hx, hZ, hw, hby, hml, hown, hret, hlk, hnm⟩ := id C
  unfold f1_126_8 at hK
  refine o_iload (pc' := 128) X hx (hb hby d1_126) rfl rfl ?_
  refine o_iconst (pc' := 129) (x := (2 : Int32)) X hx (hb hby d1_128) (by decide) rfl ?_
  refine o_icY (pc' := 138) X hx (by decide) (hb hby d1_129) (by decide) (by decide) ?_
  refine o_iload (pc' := 140) X hx (hb hby d1_138) rfl rfl ?_
  refine o_iconst (pc' := 141) (x := (3 : Int32)) X hx (hb hby d1_140) (by decide) rfl ?_
  refine o_icX (pc' := 144) X hx (by decide) (hb hby d1_141) rfl ?_
  refine o_sipush (pc' := 147) (x := (2048 : Int32)) X hx (hb hby d1_144) (by decide) rfl ?_
  refine o_goto (pc' := 152) X hx (hb hby d1_147) (by decide) (by decide) ?_
  exact b1_152_9 C x4 x5 x6 x7 x9 X eT hz0 hz1 hz2 hz3 hz10 hz11 hz12 hz13 hK

def f1_286_17 (x5 : Int32) (x6 : Int32) (x7 : Int32) : Int32 := (2 : Int32)
set_option maxRecDepth 65536 in
set_option maxHeartbeats 40000000 in
theorem b1_286_17 (C : own_Cx p s m meth c Z ag method_4_code 14 "com/example/fairtally/fairtally/ledger/Utf8SequenceLengthPinLaw" (some .int) "expected") {T : State} {h : Heap} {z0 : Slot} {z1 : Slot} {z2 : Slot} {z3 : Slot} {z4 : Slot} {z9 : Slot} {z10 : Slot} {z11 : Slot} {z12 : Slot} {z13 : Slot} (x5 : Int32) (x6 : Int32) (x7 : Int32) (X : Stand p l e R1 s m args below meth c T [] 0 0) (eT : T.heap = h) (hz0 : One z0) (hz1 : One z1) (hz2 : One z2) (hz3 : One z3) (hz4 : One z4) (hz9 : One z9) (hz10 : One z10) (hz11 : One z11) (hz12 : One z12) (hz13 : One z13) (hK : K (some (.int (f1_286_17 x5 x6 x7))) h []) : own_Go p e below (own_Q s K cc1 ss1) T (mkF m 286 #[z0, z1, z2, z3, z4, .val (.int x5), .val (.int x6), .val (.int x7), .val (.int (2 : Int32)), z9, z10, z11, z12, z13] []) := by
  obtain ⟨hx, hZ, hw, hby, hml, hown, hret, hlk, hnm⟩ := id C
  unfold f1_286_17 at hK
  refine o_iload (pc' := 288) X hx (hb hby d1_286) rfl rfl ?_
  refine o_iconst (pc' := 289) (x := (2 : Int32)) X hx (hb hby d1_288) (by decide) rfl ?_
  refine o_icX (pc' := 292) X hx (by decide) (hb hby d1_289) rfl ?_
  refine o_iconst (pc' := 293) (x := (2 : Int32)) X hx (hb hby d1_292) (by decide) rfl ?_
  exact o_retI X hx hret hlk (hb hby d1_293) (by decide) (by decide) eT (hK)

def f1_241_16 (x4 : Int32) (x5 : Int32) (x6 : Int32) (x7 : Int32) (x9 : Int32) : Int32 := (if (x9 ||| (own_shl (x4 &&& (63 : Int32)) (0 : Int32))) < (128 : Int32) then f1_284 else (if (1114111 : Int32) < (x9 ||| (own_shl (x4 &&& (63 : Int32)) (0 : Int32))) then f1_284 else (if (x9 ||| (own_shl (x4 &&& (63 : Int32)) (0 : Int32))) < (55296 : Int32) then (f1_286_17 x5 x6 x7) else (if (57343 : Int32) < (x9 ||| (own_shl (x4 &&& (63 : Int32)) (0 : Int32))) then (f1_286_17 x5 x6 x7) else f1_284))))
set_option maxRecDepth 65536 in
set_option maxHeartbeats 40000000 in
theorem b1_241_16 (C : own_Cx p s m meth c Z ag method_4_code 14 "com/example/fairtally/fairtally/ledger/Utf8SequenceLengthPinLaw" (some .int) "expected") {T : State} {h : Heap} {z0 : Slot} {z1 : Slot} {z2 : Slot} {z3 : Slot} {z11 : Slot} {z12 : Slot} {z13 : Slot} (x4 : Int32) (x5 : Int32) (x6 : Int32) (x7 : Int32) (x9 : Int32) (X : Stand p l e R1 s m args below meth c T [] 0 0) (eT : T.heap = h) (hz0 : One z0) (hz1 : One z1) (hz2 : One z2) (hz3 : One z3) (hz11 : One z11) (hz12 : One z12) (hz13 : One z13) (hK : K (some (.int (f1_241_16 x4 x5 x6 x7 x9))) h []) : own_Go p e below (own_Q s K cc1 ss1) T (mkF m 241 #[z0, z1, z2, z3, .val (.int x4), .val (.int x5), .val (.int x6), .val (.int x7), .val (.int (2 : Int32)), .val (.int x9), .val (.int (128 : Int32)), z11, z12, z13] [(.int (0 : Int32))]) := by
  obtain ⟨hx, hZ, hw, hby, hml, hown, hret, hlk, hnm⟩ := id C
  unfold f1_241_16 at hK
  refine o_istoreS (pc' := 243) (l' := #[z0, z1, z2, z3, .val (.int x4), .val (.int x5), .val (.int x6), .val (.int x7), .val (.int (2 : Int32)), .val (.int x9), .val (.int (128 : Int32)), z11, .val (.int (0 : Int32)), z13]) X hx (hb hby d1_241) rfl hz12 rfl rfl ?_
  refine o_iload (pc' := 245) X hx (hb hby d1_243) rfl rfl ?_
  refine o_iload (pc' := 247) X hx (hb hby d1_245) rfl rfl ?_
  refine o_bipush (pc' := 249) (x := (63 : Int32)) X hx (hb hby d1_247) (by decide) rfl ?_
  refine o_iand (pc' := 250)  X hx (hb hby d1_249) rfl rfl ?_
  refine o_iload (pc' := 252) X hx (hb hby d1_250) rfl rfl ?_
  refine o_ishl (pc' := 253)  X hx (hb hby d1_252) rfl rfl ?_
  refine o_ior (pc' := 254)  X hx (hb hby d1_253) rfl rfl ?_
  refine o_istoreS (pc' := 256) (l' := #[z0, z1, z2, z3, .val (.int x4), .val (.int x5), .val (.int x6), .val (.int x7), .val (.int (2 : Int32)), .val (.int x9), .val (.int (128 : Int32)), z11, .val (.int (0 : Int32)), .val (.int (x9 ||| (own_shl (x4 &&& (63 : Int32)) (0 : Int32))))]) X hx (hb hby d1_254) rfl hz13 rfl rfl ?_
  refine o_iload (pc' := 258) X hx (hb hby d1_256) rfl rfl ?_
  refine o_iload (pc' := 260) X hx (hb hby d1_258) rfl rfl ?_
  refine o_icP (P := (x9 ||| (own_shl (x4 &&& (63 : Int32)) (0 : Int32))) < (128 : Int32)) (pc1 := 284) (pc2 := 263) X hx XT.ii_lt_t XT.ii_lt_f (hb hby d1_260) (by decide) (by decide) rfl (fun c37 => ?_) (fun c37 => ?_)
  · rw [if_pos c37] at hK
    exact b1_284 C X eT hz0 hz1 hz2 hz3 (One.val rfl) (One.val rfl) (One.val rfl) (One.val rfl) (One.val rfl) (One.val rfl) (One.val rfl) hz11 (One.val rfl) (One.val rfl) hK
  · rw [if_neg c37] at hK
    refine o_iload (pc' := 265) X hx (hb hby d1_263) rfl rfl ?_
    refine o_ldcI (pc' := 267) X hx hZ hown (hw _ (List.mem_of_getElem? (i := 9) rfl)) (hb hby d1_265) rfl ?_
    refine o_icP (P := (1114111 : Int32) < (x9 ||| (own_shl (x4 &&& (63 : Int32)) (0 : Int32)))) (pc1 := 284) (pc2 := 270) X hx XT.ii_gt_t XT.ii_gt_f (hb hby d1_267) (by decide) (by decide) rfl (fun c38 => ?_) (fun c38 => ?_)
    · rw [if_pos c38] at hK
      exact b1_284 C X eT hz0 hz1 hz2 hz3 (One.val rfl) (One.val rfl) (One.val rfl) (One.val rfl) (One.val rfl) (One.val rfl) (One.val rfl) hz11 (One.val rfl) (One.val rfl) hK
    · rw [if_neg c38] at hK
      refine o_iload (pc' := 272) X hx (hb hby d1_270) rfl rfl ?_
      refine o_ldcI (pc' := 274) X hx hZ hown (hw _ (List.mem_of_getElem? (i := 15) rfl)) (hb hby d1_272) rfl ?_
      refine o_icP (P := (x9 ||| (own_shl (x4 &&& (63 : Int32)) (0 : Int32))) < (55296 : Int32)) (pc1 := 286) (pc2 := 277) X hx XT.ii_lt_t XT.ii_lt_f (hb hby d1_274) (by decide) (by decide) rfl (fun c39 => ?_) (fun c39 => ?_)
      · rw [if_pos c39] at hK
        exact b1_286_17 C x5 x6 x7 X eT hz0 hz1 hz2 hz3 (One.val rfl) (One.val rfl) (One.val rfl) hz11 (One.val rfl) (One.val rfl) hK
      · rw [if_neg c39] at hK
        refine o_iload (pc' := 279) X hx (hb hby d1_277) rfl rfl ?_
        refine o_ldcI (pc' := 281) X hx hZ hown (hw _ (List.mem_of_getElem? (i := 16) rfl)) (hb hby d1_279) rfl ?_
        refine o_icP (P := (57343 : Int32) < (x9 ||| (own_shl (x4 &&& (63 : Int32)) (0 : Int32)))) (pc1 := 286) (pc2 := 284) X hx XT.ii_gt_t XT.ii_gt_f (hb hby d1_281) (by decide) (by decide) rfl (fun c40 => ?_) (fun c40 => ?_)
        · rw [if_pos c40] at hK
          exact b1_286_17 C x5 x6 x7 X eT hz0 hz1 hz2 hz3 (One.val rfl) (One.val rfl) (One.val rfl) hz11 (One.val rfl) (One.val rfl) hK
        · rw [if_neg c40] at hK
          exact b1_284 C X eT hz0 hz1 hz2 hz3 (One.val rfl) (One.val rfl) (One.val rfl) (One.val rfl) (One.val rfl) (One.val rfl) (One.val rfl) hz11 (One.val rfl) (One.val rfl) hK

def f1_179_15 (x4 : Int32) (x5 : Int32) (x6 : Int32) (x7 : Int32) (x9 : Int32) : Int32 := (if (x9 + (63 : Int32)) < (128 : Int32) then f1_198 else (if (1114111 : Int32) < x9 then f1_198 else (if x7 < (2 : Int32) then (-1 : Int32) else (if (f3_0 x4) = (0 : Int32) then (0 : Int32) else (f1_241_16 x4 x5 x6 x7 x9)))))
set_option maxRecDepth 65536 in
set_option maxHeartbeats 40000000 in
theorem b1_179_15 (C : own_Cx p s m meth c Z ag method_4_code 14 "com/example/fairtally/fairtally/ledger/Utf8SequenceLengthPinLaw" (some .int) "expected") {T : State} {h : Heap} {z0 : Slot} {z1 : Slot} {z2 : Slot} {z3 : Slot} {z11 : Slot} {z12 : Slot} {z13 : Slot} (x4 : Int32) (x5 : Int32) (x6 : Int32) (x7 : Int32) (x9 : Int32) (X : Stand p l e R1 s m args below meth c T [] 0 0) (eT : T.heap = h) (hz0 : One z0) (hz1 : One z1) (hz2 : One z2) (hz3 : One z3) (hz11 : One z11) (hz12 : One z12) (hz13 : One z13) (hK : K (some (.int (f1_179_15 x4 x5 x6 x7 x9))) h []) : own_Go p e below (own_Q s K cc1 ss1) T (mkF m 179 #[z0, z1, z2, z3, .val (.int x4), .val (.int x5), .val (.int x6), .val (.int x7), .val (.int (2 : Int32)), .val (.int x9), .val (.int (128 : Int32)), z11, z12, z13] [(.int (63 : Int32))]) := by
  obtain ⟨hx, hZ, hw, hby, hml, hown, hret, hlk, hnm⟩ := id C
  unfold f1_179_15 at hK
  refine o_istoreS (pc' := 181) (l' := #[z0, z1, z2, z3, .val (.int x4), .val (.int x5), .val (.int x6), .val (.int x7), .val (.int (2 : Int32)), .val (.int x9), .val (.int (128 : Int32)), .val (.int (63 : Int32)), z12, z13]) X hx (hb hby d1_179) rfl hz11 rfl rfl ?_
  refine o_iload (pc' := 183) X hx (hb hby d1_181) rfl rfl ?_
  refine o_iload (pc' := 185) X hx (hb hby d1_183) rfl rfl ?_
  refine o_iadd (pc' := 186)  X hx (hb hby d1_185) rfl rfl ?_
  refine o_iload (pc' := 188) X hx (hb hby d1_186) rfl rfl ?_
  refine o_icP (P := (x9 + (63 : Int32)) < (128 : Int32)) (pc1 := 198) (pc2 := 191) X hx XT.ii_lt_t XT.ii_lt_f (hb hby d1_188) (by decide) (by decide) rfl (fun c32 => ?_) (fun c32 => ?_)
  · rw [if_pos c32] at hK
    exact b1_198 C X eT hz0 hz1 hz2 hz3 (One.val rfl) (One.val rfl) (One.val rfl) (One.val rfl) (One.val rfl) (One.val rfl) (One.val rfl) (One.val rfl) hz12 hz13 hK
  · rw [if_neg c32] at hK
    refine o_iload (pc' := 193) X hx (hb hby d1_191) rfl rfl ?_
    refine o_ldcI (pc' := 195) X hx hZ hown (hw _ (List.mem_of_getElem? (i := 9) rfl)) (hb hby d1_193) rfl ?_
    refine o_icN (P := (1114111 : Int32) < x9) (pc1 := 200) (pc2 := 198) X hx XT.ii_le_f XT.ii_le_t (hb hby d1_195) (by decide) (by decide) rfl (fun c33 => ?_) (fun c33 => ?_)
    · rw [if_neg c33] at hK
      refine o_iload (pc' := 202) X hx (hb hby d1_200) rfl rfl ?_
      refine o_iconst (pc' := 203) (x := (2 : Int32)) X hx (hb hby d1_202) (by decide) rfl ?_
      refine o_icN (P := x7 < (2 : Int32)) (pc1 := 208) (pc2 := 206) X hx XT.ii_ge_f XT.ii_ge_t (hb hby d1_203) (by decide) (by decide) rfl (fun c34 => ?_) (fun c34 => ?_)
      · rw [if_neg c34] at hK
        refine o_iload (pc' := 210) X hx (hb hby d1_208) rfl rfl ?_
        refine o_callP (W := 0) (pc' := 213) (argsL := [(.int x4)]) (rest := []) (st' := [(.int (f3_0 x4))]) X hx hZ eT hown (hw _ (List.mem_of_getElem? (i := 10) rfl)) (hw _ (List.mem_of_getElem? (i := 11) rfl)) (hw _ (List.mem_of_getElem? (i := 3) rfl)) (hw _ (List.mem_of_getElem? (i := 12) rfl)) (by decide) (rm3 l Z ag hw [] x4 h) (by decide) (by decide) (by rw [hml]; rfl) pd_0 rfl rfl rfl rfl (hb hby d1_210) rfl rfl rfl (by decide) (by decide) rfl fun T35 X35 e35 => ?_
        refine o_ifN (P := (f3_0 x4) = (0 : Int32)) (pc1 := 218) (pc2 := 216) X35 hx XT.i0_ne_f XT.i0_ne_t (hb hby d1_213) (by decide) (by decide) rfl (fun c36 => ?_) (fun c36 => ?_)
        · rw [if_neg c36] at hK
          refine o_iload (pc' := 220) X35 hx (hb hby d1_218) rfl rfl ?_
          refine o_iconst (pc' := 221) (x := (2 : Int32)) X35 hx (hb hby d1_220) (by decide) rfl ?_
          refine o_icX (pc' := 224) X35 hx (by decide) (hb hby d1_221) rfl ?_
          refine o_iconst (pc' := 225) (x := (0 : Int32)) X35 hx (hb hby d1_224) (by decide) rfl ?_
          refine o_goto (pc' := 241) X35 hx (hb hby d1_225) (by decide) (by decide) ?_
          exact b1_241_16 C x4 x5 x6 x7 x9 X35 e35 hz0 hz1 hz2 hz3 (One.val rfl) hz12 hz13 hK
        · rw [if_pos c36] at hK
          refine o_iconst (pc' := 217) (x := (0 : Int32)) X35 hx (hb hby d1_216) (by decide) rfl ?_
          exact o_retI X35 hx hret hlk (hb hby d1_217) (by decide) (by decide) e35 (hK)
      · rw [if_pos c34] at hK
        refine o_iconst (pc' := 207) (x := (-1 : Int32)) X hx (hb hby d1_206) (by decide) rfl ?_
        exact o_retI X hx hret hlk (hb hby d1_207) (by decide) (by decide) eT (hK)
    · rw [if_pos c33] at hK
      exact b1_198 C X eT hz0 hz1 hz2 hz3 (One.val rfl) (One.val rfl) (One.val rfl) (One.val rfl) (One.val rfl) (One.val rfl) (One.val rfl) (One.val rfl) hz12 hz13 hK

def f1_152_14 (x4 : Int32) (x5 : Int32) (x6 : Int32) (x7 : Int32) (x9 : Int32) : Int32 := (f1_179_15 x4 x5 x6 x7 x9)
set_option maxRecDepth 65536 in
set_option maxHeartbeats 40000000 in
theorem b1_152_14 (C : own_Cx p s m meth c Z ag method_4_code 14 "com/example/fairtally/fairtally/ledger/Utf8SequenceLengthPinLaw" (some .int) "expected") {T : State} {h : Heap} {z0 : Slot} {z1 : Slot} {z2 : Slot} {z3 : Slot} {z10 : Slot} {z11 : Slot} {z12 : Slot} {z13 : Slot} (x4 : Int32) (x5 : Int32) (x6 : Int32) (x7 : Int32) (x9 : Int32) (X : Stand p l e R1 s m args below meth c T [] 0 0) (eT : T.heap = h) (hz0 : One z0) (hz1 : One z1) (hz2 : One z2) (hz3 : One z3) (hz10 : One z10) (hz11 : One z11) (hz12 : One z12) (hz13 : One z13) (hK : K (some (.int (f1_152_14 x4 x5 x6 x7 x9))) h []) : own_Go p e below (own_Q s K cc1 ss1) T (mkF m 152 #[z0, z1, z2, z3, .val (.int x4), .val (.int x5), .val (.int x6), .val (.int x7), .val (.int (2 : Int32)), .val (.int x9), z10, z11, z12, z13] [(.int (128 : Int32))]) := by
  obtain ⟨hx, hZ, hw, hby, hml, hown, hret, hlk, hnm⟩ := id C
  unfold f1_152_14 at hK
  refine o_istoreS (pc' := 154) (l' := #[z0, z1, z2, z3, .val (.int x4), .val (.int x5), .val (.int x6), .val (.int x7), .val (.int (2 : Int32)), .val (.int x9), .val (.int (128 : Int32)), z11, z12, z13]) X hx (hb hby d1_152) rfl hz10 rfl rfl ?_
  refine o_iload (pc' := 156) X hx (hb hby d1_154) rfl rfl ?_
  refine o_iconst (pc' := 157) (x := (2 : Int32)) X hx (hb hby d1_156) (by decide) rfl ?_
  refine o_icX (pc' := 160) X hx (by decide) (hb hby d1_157) rfl ?_
  refine o_bipush (pc' := 162) (x := (63 : Int32)) X hx (hb hby d1_160) (by decide) rfl ?_
  refine o_goto (pc' := 179) X hx (hb hby d1_162) (by decide) (by decide) ?_
  exact b1_179_15 C x4 x5 x6 x7 x9 X eT hz0 hz1 hz2 hz3 hz11 hz12 hz13 hK

def f1_126_13 (x4 : Int32) (x5 : Int32) (x6 : Int32) (x7 : Int32) (x9 : Int32) : Int32 := (f1_152_14 x4 x5 x6 x7 x9)
set_option maxRecDepth 65536 in
set_option maxHeartbeats 40000000 in
theorem b1_126_13 (C : own_Cx p s m meth c Z ag method_4_code 14 "com/example/fairtally/fairtally/ledger/Utf8SequenceLengthPinLaw" (some .int) "expected") {T : State} {h : Heap} {z0 : Slot} {z1 : Slot} {z2 : Slot} {z3 : Slot} {z10 : Slot} {z11 : Slot} {z12 : Slot} {z13 : Slot} (x4 : Int32) (x5 : Int32) (x6 : Int32) (x7 : Int32) (x9 : Int32) (X : Stand p l e R1 s m args below meth c T [] 0 0) (eT : T.heap = h) (hz0 : One z0) (hz1 : One z1) (hz2 : One z2) (hz3 : One z3) (hz10 : One z10) (hz11 : One z11) (hz12 : One z12) (hz13 : One z13) (hK : K (some (.int (f1_126_13 x4 x5 x6 x7 x9))) h []) : own_Go p e below (own_Q s K cc1 ss1) T (mkF m 126 #[z0, z1, z2, z3, .val (.int x4), .val (.int x5), .val (.int x6), .val (.int x7), .val (.int (2 : Int32)), .val (.int x9), z10, z11, z12, z13] []) := by
  obtain ⟨hx, hZ, hw, hby, hml, hown, hret, hlk, hnm⟩ := id C
  unfold f1_126_13 at hK
  refine o_iload (pc' := 128) X hx (hb hby d1_126) rfl rfl ?_
  refine o_iconst (pc' := 129) (x := (2 : Int32)) X hx (hb hby d1_128) (by decide) rfl ?_
  refine o_icX (pc' := 132) X hx (by decide) (hb hby d1_129) rfl ?_
  refine o_sipush (pc' := 135) (x := (128 : Int32)) X hx (hb hby d1_132) (by decide) rfl ?_
  refine o_goto (pc' := 152) X hx (hb hby d1_135) (by decide) (by decide) ?_
  exact b1_152_14 C x4 x5 x6 x7 x9 X eT hz0 hz1 hz2 hz3 hz10 hz11 hz12 hz13 hK

def f1_0 (v0 : List Int32) (p1 : Int32) (p2 : Int32) : Int32 := (if (((own_get v0 p1) &&& (255 : Int32)) &&& (224 : Int32)) = (192 : Int32) then (f1_126_13 ((own_get v0 (p1 + (1 : Int32))) &&& (255 : Int32)) ((own_get v0 (p1 + (2 : Int32))) &&& (255 : Int32)) ((own_get v0 (p1 + (3 : Int32))) &&& (255 : Int32)) (p2 - p1) (own_shl (((own_get v0 p1) &&& (255 : Int32)) &&& (31 : Int32)) (6 : Int32))) else (if (((own_get v0 p1) &&& (255 : Int32)) &&& (240 : Int32)) = (224 : Int32) then (f1_126_8 ((own_get v0 (p1 + (1 : Int32))) &&& (255 : Int32)) ((own_get v0 (p1 + (2 : Int32))) &&& (255 : Int32)) ((own_get v0 (p1 + (3 : Int32))) &&& (255 : Int32)) (p2 - p1) (own_shl (((own_get v0 p1) &&& (255 : Int32)) &&& (15 : Int32)) (12 : Int32))) else (if (((own_get v0 p1) &&& (255 : Int32)) &&& (248 : Int32)) = (240 : Int32) then (f1_126 ((own_get v0 (p1 + (1 : Int32))) &&& (255 : Int32)) ((own_get v0 (p1 + (2 : Int32))) &&& (255 : Int32)) ((own_get v0 (p1 + (3 : Int32))) &&& (255 : Int32)) (p2 - p1) (own_shl (((own_get v0 p1) &&& (255 : Int32)) &&& (7 : Int32)) (18 : Int32))) else (0 : Int32))))
def s1_0 (v0 : List Int32) (p1 : Int32) (p2 : Int32) : Prop := (own_in v0.length p1 ∧ own_in v0.length (p1 + (1 : Int32)) ∧ own_in v0.length (p1 + (2 : Int32)) ∧ own_in v0.length (p1 + (3 : Int32)) ∧ True)
set_option maxRecDepth 65536 in
set_option maxHeartbeats 40000000 in
theorem b1_0 (C : own_Cx p s m meth c Z ag method_4_code 14 "com/example/fairtally/fairtally/ledger/Utf8SequenceLengthPinLaw" (some .int) "expected") {T : State} {h : Heap} (a0 : Addr) (v0 : List Int32) (p1 : Int32) (p2 : Int32) (X : Stand p l e R1 s m args below meth c T [] 0 0) (eT : T.heap = h) (Aa0 : own_AI Z h a0 .byte v0) (hs : s1_0 v0 p1 p2) (hK : K (some (.int (f1_0 v0 p1 p2))) h []) : own_Go p e below (own_Q s K cc1 ss1) T (mkF m 0 #[.val (.ref a0), .val (.int p1), .val (.int p2), .unset, .unset, .unset, .unset, .unset, .unset, .unset, .unset, .unset, .unset, .unset] []) := by
  obtain ⟨hx, hZ, hw, hby, hml, hown, hret, hlk, hnm⟩ := id C
  unfold f1_0 at hK
  unfold s1_0 at hs
  refine o_aloadN (pc' := 1) X hx (hb hby d1_0) rfl rfl rfl ?_
  refine o_iloadN (pc' := 2) X hx (hb hby d1_1) rfl rfl ?_
  refine o_baload (pc' := 3)  X hx hZ eT Aa0 hs.1 (hb hby d1_2) rfl rfl ?_
  refine o_sipush (pc' := 6) (x := (255 : Int32)) X hx (hb hby d1_3) (by decide) rfl ?_
  refine o_iand (pc' := 7)  X hx (hb hby d1_6) rfl rfl ?_
  refine o_istoreN (pc' := 8) (l' := #[.val (.ref a0), .val (.int p1), .val (.int p2), .val (.int ((own_get v0 p1) &&& (255 : Int32))), .unset, .unset, .unset, .unset, .unset, .unset, .unset, .unset, .unset, .unset]) X hx (hb hby d1_7) rfl rfl ?_
  refine o_aloadN (pc' := 9) X hx (hb hby d1_8) rfl rfl rfl ?_
  refine o_iloadN (pc' := 10) X hx (hb hby d1_9) rfl rfl ?_
  refine o_iconst (pc' := 11) (x := (1 : Int32)) X hx (hb hby d1_10) (by decide) rfl ?_
  refine o_iadd (pc' := 12)  X hx (hb hby d1_11) rfl rfl ?_
  refine o_baload (pc' := 13)  X hx hZ eT Aa0 hs.2.1 (hb hby d1_12) rfl rfl ?_
  refine o_sipush (pc' := 16) (x := (255 : Int32)) X hx (hb hby d1_13) (by decide) rfl ?_
  refine o_iand (pc' := 17)  X hx (hb hby d1_16) rfl rfl ?_
  refine o_istore (pc' := 19) (l' := #[.val (.ref a0), .val (.int p1), .val (.int p2), .val (.int ((own_get v0 p1) &&& (255 : Int32))), .val (.int ((own_get v0 (p1 + (1 : Int32))) &&& (255 : Int32))), .unset, .unset, .unset, .unset, .unset, .unset, .unset, .unset, .unset]) X hx (hb hby d1_17) rfl rfl ?_
  refine o_aloadN (pc' := 20) X hx (hb hby d1_19) rfl rfl rfl ?_
  refine o_iloadN (pc' := 21) X hx (hb hby d1_20) rfl rfl ?_
  refine o_iconst (pc' := 22) (x := (2 : Int32)) X hx (hb hby d1_21) (by decide) rfl ?_
  refine o_iadd (pc' := 23)  X hx (hb hby d1_22) rfl rfl ?_
  refine o_baload (pc' := 24)  X hx hZ eT Aa0 hs.2.2.1 (hb hby d1_23) rfl rfl ?_
  refine o_sipush (pc' := 27) (x := (255 : Int32)) X hx (hb hby d1_24) (by decide) rfl ?_
  refine o_iand (pc' := 28)  X hx (hb hby d1_27) rfl rfl ?_
  refine o_istore (pc' := 30) (l' := #[.val (.ref a0), .val (.int p1), .val (.int p2), .val (.int ((own_get v0 p1) &&& (255 : Int32))), .val (.int ((own_get v0 (p1 + (1 : Int32))) &&& (255 : Int32))), .val (.int ((own_get v0 (p1 + (2 : Int32))) &&& (255 : Int32))), .unset, .unset, .unset, .unset, .unset, .unset, .unset, .unset]) X hx (hb hby d1_28) rfl rfl ?_
  refine o_aloadN (pc' := 31) X hx (hb hby d1_30) rfl rfl rfl ?_
  refine o_iloadN (pc' := 32) X hx (hb hby d1_31) rfl rfl ?_
  refine o_iconst (pc' := 33) (x := (3 : Int32)) X hx (hb hby d1_32) (by decide) rfl ?_
  refine o_iadd (pc' := 34)  X hx (hb hby d1_33) rfl rfl ?_
  refine o_baload (pc' := 35)  X hx hZ eT Aa0 hs.2.2.2.1 (hb hby d1_34) rfl rfl ?_
  refine o_sipush (pc' := 38) (x := (255 : Int32)) X hx (hb hby d1_35) (by decide) rfl ?_
  refine o_iand (pc' := 39)  X hx (hb hby d1_38) rfl rfl ?_
  refine o_istore (pc' := 41) (l' := #[.val (.ref a0), .val (.int p1), .val (.int p2), .val (.int ((own_get v0 p1) &&& (255 : Int32))), .val (.int ((own_get v0 (p1 + (1 : Int32))) &&& (255 : Int32))), .val (.int ((own_get v0 (p1 + (2 : Int32))) &&& (255 : Int32))), .val (.int ((own_get v0 (p1 + (3 : Int32))) &&& (255 : Int32))), .unset, .unset, .unset, .unset, .unset, .unset, .unset]) X hx (hb hby d1_39) rfl rfl ?_
  refine o_iloadN (pc' := 42) X hx (hb hby d1_41) rfl rfl ?_
  refine o_iloadN (pc' := 43) X hx (hb hby d1_42) rfl rfl ?_
  refine o_isub (pc' := 44)  X hx (hb hby d1_43) rfl rfl ?_
  refine o_istore (pc' := 46) (l' := #[.val (.ref a0), .val (.int p1), .val (.int p2), .val (.int ((own_get v0 p1) &&& (255 : Int32))), .val (.int ((own_get v0 (p1 + (1 : Int32))) &&& (255 : Int32))), .val (.int ((own_get v0 (p1 + (2 : Int32))) &&& (255 : Int32))), .val (.int ((own_get v0 (p1 + (3 : Int32))) &&& (255 : Int32))), .val (.int (p2 - p1)), .unset, .unset, .unset, .unset, .unset, .unset]) X hx (hb hby d1_44) rfl rfl ?_
  refine o_iloadN (pc' := 47) X hx (hb hby d1_46) rfl rfl ?_
  refine o_sipush (pc' := 50) (x := (224 : Int32)) X hx (hb hby d1_47) (by decide) rfl ?_
  refine o_iand (pc' := 51)  X hx (hb hby d1_50) rfl rfl ?_
  refine o_sipush (pc' := 54) (x := (192 : Int32)) X hx (hb hby d1_51) (by decide) rfl ?_
  refine o_icN (P := (((own_get v0 p1) &&& (255 : Int32)) &&& (224 : Int32)) = (192 : Int32)) (pc1 := 72) (pc2 := 57) X hx XT.ii_ne_f XT.ii_ne_t (hb hby d1_54) (by decide) (by decide) rfl (fun c2 => ?_) (fun c2 => ?_)
  · rw [if_neg c2] at hK
    refine o_iloadN (pc' := 73) X hx (hb hby d1_72) rfl rfl ?_
    refine o_sipush (pc' := 76) (x := (240 : Int32)) X hx (hb hby d1_73) (by decide) rfl ?_
    refine o_iand (pc' := 77)  X hx (hb hby d1_76) rfl rfl ?_
    refine o_sipush (pc' := 80) (x := (224 : Int32)) X hx (hb hby d1_77) (by decide) rfl ?_
    refine o_icN (P := (((own_get v0 p1) &&& (255 : Int32)) &&& (240 : Int32)) = (224 : Int32)) (pc1 := 98) (pc2 := 83) X hx XT.ii_ne_f XT.ii_ne_t (hb hby d1_80) (by decide) (by decide) rfl (fun c3 => ?_) (fun c3 => ?_)
    · rw [if_neg c3] at hK
      refine o_iloadN (pc' := 99) X hx (hb hby d1_98) rfl rfl ?_
      refine o_sipush (pc' := 102) (x := (248 : Int32)) X hx (hb hby d1_99) (by decide) rfl ?_
      refine o_iand (pc' := 103)  X hx (hb hby d1_102) rfl rfl ?_
      refine o_sipush (pc' := 106) (x := (240 : Int32)) X hx (hb hby d1_103) (by decide) rfl ?_
      refine o_icN (P := (((own_get v0 p1) &&& (255 : Int32)) &&& (248 : Int32)) = (240 : Int32)) (pc1 := 124) (pc2 := 109) X hx XT.ii_ne_f XT.ii_ne_t (hb hby d1_106) (by decide) (by decide) rfl (fun c4 => ?_) (fun c4 => ?_)
      · rw [if_neg c4] at hK
        refine o_iconst (pc' := 125) (x := (0 : Int32)) X hx (hb hby d1_124) (by decide) rfl ?_
        exact o_retI X hx hret hlk (hb hby d1_125) (by decide) (by decide) eT (hK)
      · rw [if_pos c4] at hK
        refine o_iconst (pc' := 110) (x := (4 : Int32)) X hx (hb hby d1_109) (by decide) rfl ?_
        refine o_istore (pc' := 112) (l' := #[.val (.ref a0), .val (.int p1), .val (.int p2), .val (.int ((own_get v0 p1) &&& (255 : Int32))), .val (.int ((own_get v0 (p1 + (1 : Int32))) &&& (255 : Int32))), .val (.int ((own_get v0 (p1 + (2 : Int32))) &&& (255 : Int32))), .val (.int ((own_get v0 (p1 + (3 : Int32))) &&& (255 : Int32))), .val (.int (p2 - p1)), .val (.int (4 : Int32)), .unset, .unset, .unset, .unset, .unset]) X hx (hb hby d1_110) rfl rfl ?_
        refine o_iloadN (pc' := 113) X hx (hb hby d1_112) rfl rfl ?_
        refine o_bipush (pc' := 115) (x := (7 : Int32)) X hx (hb hby d1_113) (by decide) rfl ?_
        refine o_iand (pc' := 116)  X hx (hb hby d1_115) rfl rfl ?_
        refine o_bipush (pc' := 118) (x := (18 : Int32)) X hx (hb hby d1_116) (by decide) rfl ?_
        refine o_ishl (pc' := 119)  X hx (hb hby d1_118) rfl rfl ?_
        refine o_istore (pc' := 121) (l' := #[.val (.ref a0), .val (.int p1), .val (.int p2), .val (.int ((own_get v0 p1) &&& (255 : Int32))), .val (.int ((own_get v0 (p1 + (1 : Int32))) &&& (255 : Int32))), .val (.int ((own_get v0 (p1 + (2 : Int32))) &&& (255 : Int32))), .val (.int ((own_get v0 (p1 + (3 : Int32))) &&& (255 : Int32))), .val (.int (p2 - p1)), .val (.int (4 : Int32)), .val (.int (own_shl (((own_get v0 p1) &&& (255 : Int32)) &&& (7 : Int32)) (18 : Int32))), .unset, .unset, .unset, .unset]) X hx (hb hby d1_119) rfl rfl ?_
        refine o_goto (pc' := 126) X hx (hb hby d1_121) (by decide) (by decide) ?_
        exact b1_126 C ((own_get v0 (p1 + (1 : Int32))) &&& (255 : Int32)) ((own_get v0 (p1 + (2 : Int32))) &&& (255 : Int32)) ((own_get v0 (p1 + (3 : Int32))) &&& (255 : Int32)) (p2 - p1) (own_shl (((own_get v0 p1) &&& (255 : Int32)) &&& (7 : Int32)) (18 : Int32)) X eT (One.val rfl) (One.val rfl) (One.val rfl) (One.val rfl) One.u One.u One.u One.u hK
    · rw [if_pos c3] at hK
      refine o_iconst (pc' := 84) (x := (3 : Int32)) X hx (hb hby d1_83) (by decide) rfl ?_
      refine o_istore (pc' := 86) (l' := #[.val (.ref a0), .val (.int p1), .val (.int p2), .val (.int ((own_get v0 p1) &&& (255 : Int32))), .val (.int ((own_get v0 (p1 + (1 : Int32))) &&& (255 : Int32))), .val (.int ((own_get v0 (p1 + (2 : Int32))) &&& (255 : Int32))), .val (.int ((own_get v0 (p1 + (3 : Int32))) &&& (255 : Int32))), .val (.int (p2 - p1)), .val (.int (3 : Int32)), .unset, .unset, .unset, .unset, .unset]) X hx (hb hby d1_84) rfl rfl ?_
      refine o_iloadN (pc' := 87) X hx (hb hby d1_86) rfl rfl ?_
      refine o_bipush (pc' := 89) (x := (15 : Int32)) X hx (hb hby d1_87) (by decide) rfl ?_
      refine o_iand (pc' := 90)  X hx (hb hby d1_89) rfl rfl ?_
      refine o_bipush (pc' := 92) (x := (12 : Int32)) X hx (hb hby d1_90) (by decide) rfl ?_
      refine o_ishl (pc' := 93)  X hx (hb hby d1_92) rfl rfl ?_
      refine o_istore (pc' := 95) (l' := #[.val (.ref a0), .val (.int p1), .val (.int p2), .val (.int ((own_get v0 p1) &&& (255 : Int32))), .val (.int ((own_get v0 (p1 + (1 : Int32))) &&& (255 : Int32))), .val (.int ((own_get v0 (p1 + (2 : Int32))) &&& (255 : Int32))), .val (.int ((own_get v0 (p1 + (3 : Int32))) &&& (255 : Int32))), .val (.int (p2 - p1)), .val (.int (3 : Int32)), .val (.int (own_shl (((own_get v0 p1) &&& (255 : Int32)) &&& (15 : Int32)) (12 : Int32))), .unset, .unset, .unset, .unset]) X hx (hb hby d1_93) rfl rfl ?_
      refine o_goto (pc' := 126) X hx (hb hby d1_95) (by decide) (by decide) ?_
      exact b1_126_8 C ((own_get v0 (p1 + (1 : Int32))) &&& (255 : Int32)) ((own_get v0 (p1 + (2 : Int32))) &&& (255 : Int32)) ((own_get v0 (p1 + (3 : Int32))) &&& (255 : Int32)) (p2 - p1) (own_shl (((own_get v0 p1) &&& (255 : Int32)) &&& (15 : Int32)) (12 : Int32)) X eT (One.val rfl) (One.val rfl) (One.val rfl) (One.val rfl) One.u One.u One.u One.u hK
  · rw [if_pos c2] at hK
    refine o_iconst (pc' := 58) (x := (2 : Int32)) X hx (hb hby d1_57) (by decide) rfl ?_
    refine o_istore (pc' := 60) (l' := #[.val (.ref a0), .val (.int p1), .val (.int p2), .val (.int ((own_get v0 p1) &&& (255 : Int32))), .val (.int ((own_get v0 (p1 + (1 : Int32))) &&& (255 : Int32))), .val (.int ((own_get v0 (p1 + (2 : Int32))) &&& (255 : Int32))), .val (.int ((own_get v0 (p1 + (3 : Int32))) &&& (255 : Int32))), .val (.int (p2 - p1)), .val (.int (2 : Int32)), .unset, .unset, .unset, .unset, .unset]) X hx (hb hby d1_58) rfl rfl ?_
    refine o_iloadN (pc' := 61) X hx (hb hby d1_60) rfl rfl ?_
    refine o_bipush (pc' := 63) (x := (31 : Int32)) X hx (hb hby d1_61) (by decide) rfl ?_
    refine o_iand (pc' := 64)  X hx (hb hby d1_63) rfl rfl ?_
    refine o_bipush (pc' := 66) (x := (6 : Int32)) X hx (hb hby d1_64) (by decide) rfl ?_
    refine o_ishl (pc' := 67)  X hx (hb hby d1_66) rfl rfl ?_
    refine o_istore (pc' := 69) (l' := #[.val (.ref a0), .val (.int p1), .val (.int p2), .val (.int ((own_get v0 p1) &&& (255 : Int32))), .val (.int ((own_get v0 (p1 + (1 : Int32))) &&& (255 : Int32))), .val (.int ((own_get v0 (p1 + (2 : Int32))) &&& (255 : Int32))), .val (.int ((own_get v0 (p1 + (3 : Int32))) &&& (255 : Int32))), .val (.int (p2 - p1)), .val (.int (2 : Int32)), .val (.int (own_shl (((own_get v0 p1) &&& (255 : Int32)) &&& (31 : Int32)) (6 : Int32))), .unset, .unset, .unset, .unset]) X hx (hb hby d1_67) rfl rfl ?_
    refine o_goto (pc' := 126) X hx (hb hby d1_69) (by decide) (by decide) ?_
    exact b1_126_13 C ((own_get v0 (p1 + (1 : Int32))) &&& (255 : Int32)) ((own_get v0 (p1 + (2 : Int32))) &&& (255 : Int32)) ((own_get v0 (p1 + (3 : Int32))) &&& (255 : Int32)) (p2 - p1) (own_shl (((own_get v0 p1) &&& (255 : Int32)) &&& (31 : Int32)) (6 : Int32)) X eT (One.val rfl) (One.val rfl) (One.val rfl) (One.val rfl) One.u One.u One.u One.u hK

end Body1
theorem ef_1 (m : MethodId) (a0 : Addr) (p1 : Int32) (p2 : Int32) : entryFrame m #[(.ref a0), (.int p1), (.int p2)] 14 = mkF m 0 #[.val (.ref a0), .val (.int p1), .val (.int p2), .unset, .unset, .unset, .unset, .unset, .unset, .unset, .unset, .unset, .unset, .unset] [] := by first | (simp [entryFrame, mkF, argsToLocals, Value.category]; done) | rfl
set_option maxRecDepth 65536 in
set_option maxHeartbeats 40000000 in
theorem rm1 (l : Launch) (Z : State) (ag : Array Value) (hw : ∀ d ∈ tables_1, d.before ag Z = true) (ws : List Jvm.Cond) (a0 : Addr) (v0 : List Int32) (p1 : Int32) (p2 : Int32) (h0 : Heap) (Aa0 : own_AI Z h0 a0 .byte v0) (hs : s1_0 v0 p1 p2) :
    MetFree l (⟨"com/example/fairtally/fairtally/ledger/Utf8SequenceLengthPinLaw", "expected", "([BII)I"⟩ : MethodName) (head1 (Jvm.Cond.code (⟨"com/example/fairtally/fairtally/ledger/Utf8SequenceLengthPinLaw", "expected", "([BII)I"⟩ : MethodName) method_4_code 14 (some .int) :: ws) R1) (fun a U => a = #[(.ref a0), (.int p1), (.int p2)] ∧ Z.Warmed39 U.vm ∧ U.heap = h0) (fun _ _ _ _ _ => True) (fun _ U o U' => ∃ v L, o = .returned v ∧ own_KP (some (.int (f1_0 v0 p1 p2))) h0 v U'.heap L ∧ FrameEnd U o U' L R1.cells R1.slots) := by
  refine MetFree.of_bodySF (plainFor_of_name pn_Utf8SequenceLengthPinLaw) hisR ?_
  intro p e s m args below meth c s₁ Bd hml0 hP hK
  obtain ⟨rfl, hZ, hh⟩ := hP
  have C : own_Cx p s m meth c Z ag method_4_code 14 "com/example/fairtally/fairtally/ledger/Utf8SequenceLengthPinLaw" (some .int) "expected" := ⟨Bd.exec, hZ, hw, Bd.bytes, hml0, findClass_of_methodNamed Bd.named, Bd.returns, Bd.notSynchronized, (name_of_methodNamed Bd.named Bd.method).1⟩
  have X0 : Stand p l e R1 s m #[(.ref a0), (.int p1), (.int p2)] below meth c s₁ [] 0 0 := Stand.of_body Bd
  have e0 : s₁.heap = h0 := by rw [← hh, Bd.state]; rfl
  rw [ef_1]
  exact b1_0 (K := own_KP (some (.int (f1_0 v0 p1 p2))) h0) C a0 v0 p1 p2 X0 e0 Aa0 hs ⟨rfl, rfl, rfl⟩

theorem d2_0 : decode prog_66_method_2_code 0 = .ok (.aload_n 0, 1) := by decide +kernel
theorem d2_1 : decode prog_66_method_2_code 1 = .ok (.iload_n 1, 1) := by decide +kernel
theorem d2_2 : decode prog_66_method_2_code 2 = .ok (.baload, 1) := by decide +kernel
theorem d2_3 : decode prog_66_method_2_code 3 = .ok (.sipush 255, 3) := by decide +kernel
theorem d2_6 : decode prog_66_method_2_code 6 = .ok (.iand, 1) := by decide +kernel
theorem d2_7 : decode prog_66_method_2_code 7 = .ok (.istore_n 3, 1) := by decide +kernel
theorem d2_8 : decode prog_66_method_2_code 8 = .ok (.sipush 128, 3) := by decide +kernel
theorem d2_11 : decode prog_66_method_2_code 11 = .ok (.istore 5, 2) := by decide +kernel
theorem d2_13 : decode prog_66_method_2_code 13 = .ok (.sipush 191, 3) := by decide +kernel
theorem d2_16 : decode prog_66_method_2_code 16 = .ok (.istore 6, 2) := by decide +kernel
theorem d2_18 : decode prog_66_method_2_code 18 = .ok (.iload_n 3, 1) := by decide +kernel
theorem d2_19 : decode prog_66_method_2_code 19 = .ok (.sipush 194, 3) := by decide +kernel
theorem d2_22 : decode prog_66_method_2_code 22 = .ok (.if_icmp .lt 16, 3) := by decide +kernel
theorem d2_25 : decode prog_66_method_2_code 25 = .ok (.iload_n 3, 1) := by decide +kernel
theorem d2_26 : decode prog_66_method_2_code 26 = .ok (.sipush 223, 3) := by decide +kernel
theorem d2_29 : decode prog_66_method_2_code 29 = .ok (.if_icmp .gt 9, 3) := by decide +kernel
theorem d2_32 : decode prog_66_method_2_code 32 = .ok (.iconst 2, 1) := by decide +kernel
theorem d2_33 : decode prog_66_method_2_code 33 = .ok (.istore 4, 2) := by decide +kernel
theorem d2_35 : decode prog_66_method_2_code 35 = .ok (.goto 113, 3) := by decide +kernel
theorem d2_38 : decode prog_66_method_2_code 38 = .ok (.iload_n 3, 1) := by decide +kernel
theorem d2_39 : decode prog_66_method_2_code 39 = .ok (.sipush 224, 3) := by decide +kernel
theorem d2_42 : decode prog_66_method_2_code 42 = .ok (.if_icmp .lt 50, 3) := by decide +kernel
theorem d2_45 : decode prog_66_method_2_code 45 = .ok (.iload_n 3, 1) := by decide +kernel
theorem d2_46 : decode prog_66_method_2_code 46 = .ok (.sipush 239, 3) := by decide +kernel
theorem d2_49 : decode prog_66_method_2_code 49 = .ok (.if_icmp .gt 43, 3) := by decide +kernel
theorem d2_52 : decode prog_66_method_2_code 52 = .ok (.iconst 3, 1) := by decide +kernel
theorem d2_53 : decode prog_66_method_2_code 53 = .ok (.istore 4, 2) := by decide +kernel
theorem d2_55 : decode prog_66_method_2_code 55 = .ok (.iload_n 3, 1) := by decide +kernel
theorem d2_56 : decode prog_66_method_2_code 56 = .ok (.sipush 224, 3) := by decide +kernel
theorem d2_59 : decode prog_66_method_2_code 59 = .ok (.if_icmp .ne 9, 3) := by decide +kernel
theorem d2_62 : decode prog_66_method_2_code 62 = .ok (.sipush 160, 3) := by decide +kernel
theorem d2_65 : decode prog_66_method_2_code 65 = .ok (.goto 5, 3) := by decide +kernel
theorem d2_68 : decode prog_66_method_2_code 68 = .ok (.iload 5, 2) := by decide +kernel
theorem d2_70 : decode prog_66_method_2_code 70 = .ok (.istore 5, 2) := by decide +kernel
theorem d2_72 : decode prog_66_method_2_code 72 = .ok (.iload_n 3, 1) := by decide +kernel
theorem d2_73 : decode prog_66_method_2_code 73 = .ok (.sipush 237, 3) := by decide +kernel
theorem d2_76 : decode prog_66_method_2_code 76 = .ok (.if_icmp .ne 9, 3) := by decide +kernel
theorem d2_79 : decode prog_66_method_2_code 79 = .ok (.sipush 159, 3) := by decide +kernel
theorem d2_82 : decode prog_66_method_2_code 82 = .ok (.goto 5, 3) := by decide +kernel
theorem d2_85 : decode prog_66_method_2_code 85 = .ok (.iload 6, 2) := by decide +kernel
theorem d2_87 : decode prog_66_method_2_code 87 = .ok (.istore 6, 2) := by decide +kernel
theorem d2_89 : decode prog_66_method_2_code 89 = .ok (.goto 59, 3) := by decide +kernel
theorem d2_92 : decode prog_66_method_2_code 92 = .ok (.iload_n 3, 1) := by decide +kernel
theorem d2_93 : decode prog_66_method_2_code 93 = .ok (.sipush 240, 3) := by decide +kernel
theorem d2_96 : decode prog_66_method_2_code 96 = .ok (.if_icmp .lt 50, 3) := by decide +kernel
theorem d2_99 : decode prog_66_method_2_code 99 = .ok (.iload_n 3, 1) := by decide +kernel
theorem d2_100 : decode prog_66_method_2_code 100 = .ok (.sipush 244, 3) := by decide +kernel
theorem d2_103 : decode prog_66_method_2_code 103 = .ok (.if_icmp .gt 43, 3) := by decide +kernel
theorem d2_106 : decode prog_66_method_2_code 106 = .ok (.iconst 4, 1) := by decide +kernel
theorem d2_107 : decode prog_66_method_2_code 107 = .ok (.istore 4, 2) := by decide +kernel
theorem d2_109 : decode prog_66_method_2_code 109 = .ok (.iload_n 3, 1) := by decide +kernel
theorem d2_110 : decode prog_66_method_2_code 110 = .ok (.sipush 240, 3) := by decide +kernel
theorem d2_113 : decode prog_66_method_2_code 113 = .ok (.if_icmp .ne 9, 3) := by decide +kernel
theorem d2_116 : decode prog_66_method_2_code 116 = .ok (.sipush 144, 3) := by decide +kernel
theorem d2_119 : decode prog_66_method_2_code 119 = .ok (.goto 5, 3) := by decide +kernel
theorem d2_122 : decode prog_66_method_2_code 122 = .ok (.iload 5, 2) := by decide +kernel
theorem d2_124 : decode prog_66_method_2_code 124 = .ok (.istore 5, 2) := by decide +kernel
theorem d2_126 : decode prog_66_method_2_code 126 = .ok (.iload_n 3, 1) := by decide +kernel
theorem d2_127 : decode prog_66_method_2_code 127 = .ok (.sipush 244, 3) := by decide +kernel
theorem d2_130 : decode prog_66_method_2_code 130 = .ok (.if_icmp .ne 9, 3) := by decide +kernel
theorem d2_133 : decode prog_66_method_2_code 133 = .ok (.sipush 143, 3) := by decide +kernel
theorem d2_136 : decode prog_66_method_2_code 136 = .ok (.goto 5, 3) := by decide +kernel
theorem d2_139 : decode prog_66_method_2_code 139 = .ok (.iload 6, 2) := by decide +kernel
theorem d2_141 : decode prog_66_method_2_code 141 = .ok (.istore 6, 2) := by decide +kernel
theorem d2_143 : decode prog_66_method_2_code 143 = .ok (.goto 5, 3) := by decide +kernel
theorem d2_146 : decode prog_66_method_2_code 146 = .ok (.iconst 0, 1) := by decide +kernel
theorem d2_147 : decode prog_66_method_2_code 147 = .ok (.ireturn, 1) := by decide +kernel
theorem d2_148 : decode prog_66_method_2_code 148 = .ok (.iconst 1, 1) := by decide +kernel
theorem d2_149 : decode prog_66_method_2_code 149 = .ok (.istore 7, 2) := by decide +kernel
theorem d2_151 : decode prog_66_method_2_code 151 = .ok (.iload 7, 2) := by decide +kernel
theorem d2_153 : decode prog_66_method_2_code 153 = .ok (.iload 4, 2) := by decide +kernel
theorem d2_155 : decode prog_66_method_2_code 155 = .ok (.if_icmp .ge 89, 3) := by decide +kernel
theorem d2_158 : decode prog_66_method_2_code 158 = .ok (.iload_n 1, 1) := by decide +kernel
theorem d2_159 : decode prog_66_method_2_code 159 = .ok (.iload 7, 2) := by decide +kernel
theorem d2_161 : decode prog_66_method_2_code 161 = .ok (.iadd, 1) := by decide +kernel
theorem d2_162 : decode prog_66_method_2_code 162 = .ok (.iload_n 2, 1) := by decide +kernel
theorem d2_163 : decode prog_66_method_2_code 163 = .ok (.if_icmp .ne 5, 3) := by decide +kernel
theorem d2_166 : decode prog_66_method_2_code 166 = .ok (.iconst (-1), 1) := by decide +kernel
theorem d2_167 : decode prog_66_method_2_code 167 = .ok (.ireturn, 1) := by decide +kernel
theorem d2_168 : decode prog_66_method_2_code 168 = .ok (.aload_n 0, 1) := by decide +kernel
theorem d2_169 : decode prog_66_method_2_code 169 = .ok (.iload_n 1, 1) := by decide +kernel
theorem d2_170 : decode prog_66_method_2_code 170 = .ok (.iload 7, 2) := by decide +kernel
theorem d2_172 : decode prog_66_method_2_code 172 = .ok (.iadd, 1) := by decide +kernel
theorem d2_173 : decode prog_66_method_2_code 173 = .ok (.baload, 1) := by decide +kernel
theorem d2_174 : decode prog_66_method_2_code 174 = .ok (.sipush 255, 3) := by decide +kernel
theorem d2_177 : decode prog_66_method_2_code 177 = .ok (.iand, 1) := by decide +kernel
theorem d2_178 : decode prog_66_method_2_code 178 = .ok (.istore 8, 2) := by decide +kernel
theorem d2_180 : decode prog_66_method_2_code 180 = .ok (.iload 7, 2) := by decide +kernel
theorem d2_182 : decode prog_66_method_2_code 182 = .ok (.iconst 1, 1) := by decide +kernel
theorem d2_183 : decode prog_66_method_2_code 183 = .ok (.if_icmp .ne 25, 3) := by decide +kernel
theorem d2_186 : decode prog_66_method_2_code 186 = .ok (.iload 8, 2) := by decide +kernel
theorem d2_188 : decode prog_66_method_2_code 188 = .ok (.iload 5, 2) := by decide +kernel
theorem d2_190 : decode prog_66_method_2_code 190 = .ok (.if_icmp .lt 14, 3) := by decide +kernel
theorem d2_193 : decode prog_66_method_2_code 193 = .ok (.iload 8, 2) := by decide +kernel
theorem d2_195 : decode prog_66_method_2_code 195 = .ok (.iload 6, 2) := by decide +kernel
theorem d2_197 : decode prog_66_method_2_code 197 = .ok (.if_icmp .gt 7, 3) := by decide +kernel
theorem d2_200 : decode prog_66_method_2_code 200 = .ok (.iconst 1, 1) := by decide +kernel
theorem d2_201 : decode prog_66_method_2_code 201 = .ok (.goto 28, 3) := by decide +kernel
theorem d2_204 : decode prog_66_method_2_code 204 = .ok (.iconst 0, 1) := by decide +kernel
theorem d2_205 : decode prog_66_method_2_code 205 = .ok (.goto 24, 3) := by decide +kernel
theorem d2_208 : decode prog_66_method_2_code 208 = .ok (.iload 8, 2) := by decide +kernel
theorem d2_210 : decode prog_66_method_2_code 210 = .ok (.sipush 128, 3) := by decide +kernel
theorem d2_213 : decode prog_66_method_2_code 213 = .ok (.if_icmp .lt 15, 3) := by decide +kernel
theorem d2_216 : decode prog_66_method_2_code 216 = .ok (.iload 8, 2) := by decide +kernel
theorem d2_218 : decode prog_66_method_2_code 218 = .ok (.sipush 191, 3) := by decide +kernel
theorem d2_221 : decode prog_66_method_2_code 221 = .ok (.if_icmp .gt 7, 3) := by decide +kernel
theorem d2_224 : decode prog_66_method_2_code 224 = .ok (.iconst 1, 1) := by decide +kernel
theorem d2_225 : decode prog_66_method_2_code 225 = .ok (.goto 4, 3) := by decide +kernel
theorem d2_228 : decode prog_66_method_2_code 228 = .ok (.iconst 0, 1) := by decide +kernel
theorem d2_229 : decode prog_66_method_2_code 229 = .ok (.istore 9, 2) := by decide +kernel
theorem d2_231 : decode prog_66_method_2_code 231 = .ok (.iload 9, 2) := by decide +kernel
theorem d2_233 : decode prog_66_method_2_code 233 = .ok (.ifCond .ne 5, 3) := by decide +kernel
theorem d2_236 : decode prog_66_method_2_code 236 = .ok (.iconst 0, 1) := by decide +kernel
theorem d2_237 : decode prog_66_method_2_code 237 = .ok (.ireturn, 1) := by decide +kernel
theorem d2_238 : decode prog_66_method_2_code 238 = .ok (.iinc 7 1, 3) := by decide +kernel
theorem d2_241 : decode prog_66_method_2_code 241 = .ok (.goto (-90), 3) := by decide +kernel
theorem d2_244 : decode prog_66_method_2_code 244 = .ok (.iload 4, 2) := by decide +kernel
theorem d2_246 : decode prog_66_method_2_code 246 = .ok (.ireturn, 1) := by decide +kernel
section Body2
variable {p : Program} {l : Launch} {e : Env} {s : State} {m : MethodId} {args : Array Value} {below : List Frame} {meth : Method} {c : Code} {Z : State} {ag : Array Value} {K : Option Value → Heap → List Loc → Prop}
abbrev R2 : Room := { frames := 0, cells := 0, slots := 0, locals := 0 }
abbrev cc2 : Nat := 0
abbrev ss2 : Nat := 0
def f2_146 : Int32 := (0 : Int32)
set_option maxRecDepth 65536 in
set_option maxHeartbeats 40000000 in
theorem b2_146 (C : own_Cx p s m meth c Z ag prog_66_method_2_code 10 "com/example/fairtally/fairtally/ledger/Utf8" (some .int) "sequenceLength") {T : State} {h : Heap} {z0 : Slot} {z1 : Slot} {z2 : Slot} {z3 : Slot} {z4 : Slot} {z5 : Slot} {z6 : Slot} {z7 : Slot} {z8 : Slot} {z9 : Slot} (X : Stand p l e R2 s m args below meth c T [] 0 0) (eT : T.heap = h) (hz0 : One z0) (hz1 : One z1) (hz2 : One z2) (hz3 : One z3) (hz4 : One z4) (hz5 : One z5) (hz6 : One z6) (hz7 : One z7) (hz8 : One z8) (hz9 : One z9) (hK : K (some (.int (f2_146))) h []) : own_Go p e below (own_Q s K cc2 ss2) T (mkF m 146 #[z0, z1, z2, z3, z4, z5, z6, z7, z8, z9] []) := by
  obtain ⟨hx, hZ, hw, hby, hml, hown, hret, hlk, hnm⟩ := id C
  unfold f2_146 at hK
  refine o_iconst (pc' := 147) (x := (0 : Int32)) X hx (hb hby d2_146) (by decide) rfl ?_
  exact o_retI X hx hret hlk (hb hby d2_147) (by decide) (by decide) eT (hK)

def f2_151 : Nat → List Int32 → Int32 → Int32 → Int32 → Int32 → Int32 → Int32 → Int32
  | 0, _, _, _, _, _, _, _ => 0
  | n + 1, v0, x1, x2, x4, x5, x6, x7 => (if x7 < x4 then (if (x1 + x7) = x2 then (-1 : Int32) else (if x7 = (1 : Int32) then (if ((own_get v0 (x1 + x7)) &&& (255 : Int32)) < x5 then (0 : Int32) else (if x6 < ((own_get v0 (x1 + x7)) &&& (255 : Int32)) then (0 : Int32) else (f2_151 n v0 x1 x2 x4 x5 x6 (x7 + (1 : Int32))))) else (if ((own_get v0 (x1 + x7)) &&& (255 : Int32)) < (128 : Int32) then (0 : Int32) else (if (191 : Int32) < ((own_get v0 (x1 + x7)) &&& (255 : Int32)) then (0 : Int32) else (f2_151 n v0 x1 x2 x4 x5 x6 (x7 + (1 : Int32))))))) else x4)
def s2_151 : Nat → List Int32 → Int32 → Int32 → Int32 → Int32 → Int32 → Int32 → Prop
  | 0, _, _, _, _, _, _, _ => False
  | n + 1, v0, x1, x2, x4, x5, x6, x7 => ((x7 < x4 → (((x1 + x7) = x2 → True) ∧ (¬ ((x1 + x7) = x2) → (own_in v0.length (x1 + x7) ∧ ((x7 = (1 : Int32) → ((((own_get v0 (x1 + x7)) &&& (255 : Int32)) < x5 → True) ∧ (¬ (((own_get v0 (x1 + x7)) &&& (255 : Int32)) < x5) → ((x6 < ((own_get v0 (x1 + x7)) &&& (255 : Int32)) → True) ∧ (¬ (x6 < ((own_get v0 (x1 + x7)) &&& (255 : Int32))) → s2_151 n v0 x1 x2 x4 x5 x6 (x7 + (1 : Int32))))))) ∧ (¬ (x7 = (1 : Int32)) → ((((own_get v0 (x1 + x7)) &&& (255 : Int32)) < (128 : Int32) → True) ∧ (¬ (((own_get v0 (x1 + x7)) &&& (255 : Int32)) < (128 : Int32)) → (((191 : Int32) < ((own_get v0 (x1 + x7)) &&& (255 : Int32)) → True) ∧ (¬ ((191 : Int32) < ((own_get v0 (x1 + x7)) &&& (255 : Int32))) → s2_151 n v0 x1 x2 x4 x5 x6 (x7 + (1 : Int32)))))))))))) ∧ (¬ (x7 < x4) → True))
set_option maxRecDepth 65536 in
set_option maxHeartbeats 40000000 in
theorem b2_151 (C : own_Cx p s m meth c Z ag prog_66_method_2_code 10 "com/example/fairtally/fairtally/ledger/Utf8" (some .int) "sequenceLength") :
    ∀ (n : Nat) {T : State} {h : Heap} {z3 : Slot} {z8 : Slot} {z9 : Slot} (a0 : Addr) (v0 : List Int32) (x1 : Int32) (x2 : Int32) (x4 : Int32) (x5 : Int32) (x6 : Int32) (x7 : Int32) (X : Stand p l e R2 s m args below meth c T [] 0 0) (eT : T.heap = h) (Aa0 : own_AI Z h a0 .byte v0) (hz3 : One z3) (hz8 : One z8) (hz9 : One z9) (hs : s2_151 n v0 x1 x2 x4 x5 x6 x7) (hK : K (some (.int (f2_151 n v0 x1 x2 x4 x5 x6 x7))) h []), own_Go p e below (own_Q s K cc2 ss2) T (mkF m 151 #[.val (.ref a0), .val (.int x1), .val (.int x2), z3, .val (.int x4), .val (.int x5), .val (.int x6), .val (.int x7), z8, z9] []) := by
  intro n
  induction n with
  | zero => intros; rename_i hs _; exact hs.elim
  | succ n ih =>
    intro T h z3 z8 z9 a0 v0 x1 x2 x4 x5 x6 x7 X eT Aa0 hz3 hz8 hz9 hs hK
    obtain ⟨hx, hZ, hw, hby, hml, hown, hret, hlk, hnm⟩ := id C
    unfold f2_151 at hK
    unfold s2_151 at hs
    refine o_iload (pc' := 153) X hx (hb hby d2_151) rfl rfl ?_
    refine o_iload (pc' := 155) X hx (hb hby d2_153) rfl rfl ?_
    refine o_icN (P := x7 < x4) (pc1 := 244) (pc2 := 158) X hx XT.ii_ge_f XT.ii_ge_t (hb hby d2_155) (by decide) (by decide) rfl (fun c47 => ?_) (fun c47 => ?_)
    · rw [if_neg c47] at hK
      refine o_iload (pc' := 246) X hx (hb hby d2_244) rfl rfl ?_
      exact o_retI X hx hret hlk (hb hby d2_246) (by decide) (by decide) eT (hK)
    · rw [if_pos c47] at hK
      refine o_iloadN (pc' := 159) X hx (hb hby d2_158) rfl rfl ?_
      refine o_iload (pc' := 161) X hx (hb hby d2_159) rfl rfl ?_
      refine o_iadd (pc' := 162)  X hx (hb hby d2_161) rfl rfl ?_
      refine o_iloadN (pc' := 163) X hx (hb hby d2_162) rfl rfl ?_
      refine o_icN (P := (x1 + x7) = x2) (pc1 := 168) (pc2 := 166) X hx XT.ii_ne_f XT.ii_ne_t (hb hby d2_163) (by decide) (by decide) rfl (fun c48 => ?_) (fun c48 => ?_)
      · rw [if_neg c48] at hK
        refine o_aloadN (pc' := 169) X hx (hb hby d2_168) rfl rfl rfl ?_
        refine o_iloadN (pc' := 170) X hx (hb hby d2_169) rfl rfl ?_
        refine o_iload (pc' := 172) X hx (hb hby d2_170) rfl rfl ?_
        refine o_iadd (pc' := 173)  X hx (hb hby d2_172) rfl rfl ?_
        refine o_baload (pc' := 174)  X hx hZ eT Aa0 ((hs.1 c47).2 c48).1 (hb hby d2_173) rfl rfl ?_
        refine o_sipush (pc' := 177) (x := (255 : Int32)) X hx (hb hby d2_174) (by decide) rfl ?_
        refine o_iand (pc' := 178)  X hx (hb hby d2_177) rfl rfl ?_
        refine o_istoreS (pc' := 180) (l' := #[.val (.ref a0), .val (.int x1), .val (.int x2), z3, .val (.int x4), .val (.int x5), .val (.int x6), .val (.int x7), .val (.int ((own_get v0 (x1 + x7)) &&& (255 : Int32))), z9]) X hx (hb hby d2_178) rfl hz8 rfl rfl ?_
        refine o_iload (pc' := 182) X hx (hb hby d2_180) rfl rfl ?_
        refine o_iconst (pc' := 183) (x := (1 : Int32)) X hx (hb hby d2_182) (by decide) rfl ?_
        refine o_icN (P := x7 = (1 : Int32)) (pc1 := 208) (pc2 := 186) X hx XT.ii_ne_f XT.ii_ne_t (hb hby d2_183) (by decide) (by decide) rfl (fun c49 => ?_) (fun c49 => ?_)
        · rw [if_neg c49] at hK
          refine o_iload (pc' := 210) X hx (hb hby d2_208) rfl rfl ?_
          refine o_sipush (pc' := 213) (x := (128 : Int32)) X hx (hb hby d2_210) (by decide) rfl ?_
          refine o_icP (P := ((own_get v0 (x1 + x7)) &&& (255 : Int32)) < (128 : Int32)) (pc1 := 228) (pc2 := 216) X hx XT.ii_lt_t XT.ii_lt_f (hb hby d2_213) (by decide) (by decide) rfl (fun c50 => ?_) (fun c50 => ?_)
          · rw [if_pos c50] at hK
            refine o_iconst (pc' := 229) (x := (0 : Int32)) X hx (hb hby d2_228) (by decide) rfl ?_
            refine o_istoreS (pc' := 231) (l' := #[.val (.ref a0), .val (.int x1), .val (.int x2), z3, .val (.int x4), .val (.int x5), .val (.int x6), .val (.int x7), .val (.int ((own_get v0 (x1 + x7)) &&& (255 : Int32))), .val (.int (0 : Int32))]) X hx (hb hby d2_229) rfl hz9 rfl rfl ?_
            refine o_iload (pc' := 233) X hx (hb hby d2_231) rfl rfl ?_
            refine o_ifX (pc' := 236) X hx (by decide) (hb hby d2_233) rfl ?_
            refine o_iconst (pc' := 237) (x := (0 : Int32)) X hx (hb hby d2_236) (by decide) rfl ?_
            exact o_retI X hx hret hlk (hb hby d2_237) (by decide) (by decide) eT (hK)
          · rw [if_neg c50] at hK
            refine o_iload (pc' := 218) X hx (hb hby d2_216) rfl rfl ?_
            refine o_sipush (pc' := 221) (x := (191 : Int32)) X hx (hb hby d2_218) (by decide) rfl ?_
            refine o_icP (P := (191 : Int32) < ((own_get v0 (x1 + x7)) &&& (255 : Int32))) (pc1 := 228) (pc2 := 224) X hx XT.ii_gt_t XT.ii_gt_f (hb hby d2_221) (by decide) (by decide) rfl (fun c51 => ?_) (fun c51 => ?_)
            · rw [if_pos c51] at hK
              refine o_iconst (pc' := 229) (x := (0 : Int32)) X hx (hb hby d2_228) (by decide) rfl ?_
              refine o_istoreS (pc' := 231) (l' := #[.val (.ref a0), .val (.int x1), .val (.int x2), z3, .val (.int x4), .val (.int x5), .val (.int x6), .val (.int x7), .val (.int ((own_get v0 (x1 + x7)) &&& (255 : Int32))), .val (.int (0 : Int32))]) X hx (hb hby d2_229) rfl hz9 rfl rfl ?_
              refine o_iload (pc' := 233) X hx (hb hby d2_231) rfl rfl ?_
              refine o_ifX (pc' := 236) X hx (by decide) (hb hby d2_233) rfl ?_
              refine o_iconst (pc' := 237) (x := (0 : Int32)) X hx (hb hby d2_236) (by decide) rfl ?_
              exact o_retI X hx hret hlk (hb hby d2_237) (by decide) (by decide) eT (hK)
            · rw [if_neg c51] at hK
              refine o_iconst (pc' := 225) (x := (1 : Int32)) X hx (hb hby d2_224) (by decide) rfl ?_
              refine o_goto (pc' := 229) X hx (hb hby d2_225) (by decide) (by decide) ?_
              refine o_istoreS (pc' := 231) (l' := #[.val (.ref a0), .val (.int x1), .val (.int x2), z3, .val (.int x4), .val (.int x5), .val (.int x6), .val (.int x7), .val (.int ((own_get v0 (x1 + x7)) &&& (255 : Int32))), .val (.int (1 : Int32))]) X hx (hb hby d2_229) rfl hz9 rfl rfl ?_
              refine o_iload (pc' := 233) X hx (hb hby d2_231) rfl rfl ?_
              refine o_ifY (pc' := 238) X hx (by decide) (hb hby d2_233) (by decide) (by decide) ?_
              refine o_iinc (pc' := 241) (y := (x7 + (1 : Int32))) (l' := #[.val (.ref a0), .val (.int x1), .val (.int x2), z3, .val (.int x4), .val (.int x5), .val (.int x6), .val (.int (x7 + (1 : Int32))), .val (.int ((own_get v0 (x1 + x7)) &&& (255 : Int32))), .val (.int (1 : Int32))]) X hx (hb hby d2_238) rfl rfl rfl rfl ?_
              refine o_goto (pc' := 151) X hx (hb hby d2_241) (by decide) (by decide) ?_
              exact ih a0 v0 x1 x2 x4 x5 x6 (x7 + (1 : Int32)) X eT Aa0 hz3 (One.val rfl) (One.val rfl) (((((hs.1 c47).2 c48).2.2 c49).2 c50).2 c51) hK
        · rw [if_pos c49] at hK
          refine o_iload (pc' := 188) X hx (hb hby d2_186) rfl rfl ?_
          refine o_iload (pc' := 190) X hx (hb hby d2_188) rfl rfl ?_
          refine o_icP (P := ((own_get v0 (x1 + x7)) &&& (255 : Int32)) < x5) (pc1 := 204) (pc2 := 193) X hx XT.ii_lt_t XT.ii_lt_f (hb hby d2_190) (by decide) (by decide) rfl (fun c52 => ?_) (fun c52 => ?_)
          · rw [if_pos c52] at hK
            refine o_iconst (pc' := 205) (x := (0 : Int32)) X hx (hb hby d2_204) (by decide) rfl ?_
            refine o_goto (pc' := 229) X hx (hb hby d2_205) (by decide) (by decide) ?_
            refine o_istoreS (pc' := 231) (l' := #[.val (.ref a0), .val (.int x1), .val (.int x2), z3, .val (.int x4), .val (.int x5), .val (.int x6), .val (.int x7), .val (.int ((own_get v0 (x1 + x7)) &&& (255 : Int32))), .val (.int (0 : Int32))]) X hx (hb hby d2_229) rfl hz9 rfl rfl ?_
            refine o_iload (pc' := 233) X hx (hb hby d2_231) rfl rfl ?_
            refine o_ifX (pc' := 236) X hx (by decide) (hb hby d2_233) rfl ?_
            refine o_iconst (pc' := 237) (x := (0 : Int32)) X hx (hb hby d2_236) (by decide) rfl ?_
            exact o_retI X hx hret hlk (hb hby d2_237) (by decide) (by decide) eT (hK)
          · rw [if_neg c52] at hK
            refine o_iload (pc' := 195) X hx (hb hby d2_193) rfl rfl ?_
            refine o_iload (pc' := 197) X hx (hb hby d2_195) rfl rfl ?_
            refine o_icP (P := x6 < ((own_get v0 (x1 + x7)) &&& (255 : Int32))) (pc1 := 204) (pc2 := 200) X hx XT.ii_gt_t XT.ii_gt_f (hb hby d2_197) (by decide) (by decide) rfl (fun c53 => ?_) (fun c53 => ?_)
            · rw [if_pos c53] at hK
              refine o_iconst (pc' := 205) (x := (0 : Int32)) X hx (hb hby d2_204) (by decide) rfl ?_
              refine o_goto (pc' := 229) X hx (hb hby d2_205) (by decide) (by decide) ?_
              refine o_istoreS (pc' := 231) (l' := #[.val (.ref a0), .val (.int x1), .val (.int x2), z3, .val (.int x4), .val (.int x5), .val (.int x6), .val (.int x7), .val (.int ((own_get v0 (x1 + x7)) &&& (255 : Int32))), .val (.int (0 : Int32))]) X hx (hb hby d2_229) rfl hz9 rfl rfl ?_
              refine o_iload (pc' := 233) X hx (hb hby d2_231) rfl rfl ?_
              refine o_ifX (pc' := 236) X hx (by decide) (hb hby d2_233) rfl ?_
              refine o_iconst (pc' := 237) (x := (0 : Int32)) X hx (hb hby d2_236) (by decide) rfl ?_
              exact o_retI X hx hret hlk (hb hby d2_237) (by decide) (by decide) eT (hK)
            · rw [if_neg c53] at hK
              refine o_iconst (pc' := 201) (x := (1 : Int32)) X hx (hb hby d2_200) (by decide) rfl ?_
              refine o_goto (pc' := 229) X hx (hb hby d2_201) (by decide) (by decide) ?_
              refine o_istoreS (pc' := 231) (l' := #[.val (.ref a0), .val (.int x1), .val (.int x2), z3, .val (.int x4), .val (.int x5), .val (.int x6), .val (.int x7), .val (.int ((own_get v0 (x1 + x7)) &&& (255 : Int32))), .val (.int (1 : Int32))]) X hx (hb hby d2_229) rfl hz9 rfl rfl ?_
              refine o_iload (pc' := 233) X hx (hb hby d2_231) rfl rfl ?_
              refine o_ifY (pc' := 238) X hx (by decide) (hb hby d2_233) (by decide) (by decide) ?_
              refine o_iinc (pc' := 241) (y := (x7 + (1 : Int32))) (l' := #[.val (.ref a0), .val (.int x1), .val (.int x2), z3, .val (.int x4), .val (.int x5), .val (.int x6), .val (.int (x7 + (1 : Int32))), .val (.int ((own_get v0 (x1 + x7)) &&& (255 : Int32))), .val (.int (1 : Int32))]) X hx (hb hby d2_238) rfl rfl rfl rfl ?_
              refine o_goto (pc' := 151) X hx (hb hby d2_241) (by decide) (by decide) ?_
              exact ih a0 v0 x1 x2 x4 x5 x6 (x7 + (1 : Int32)) X eT Aa0 hz3 (One.val rfl) (One.val rfl) (((((hs.1 c47).2 c48).2.1 c49).2 c52).2 c53) hK
      · rw [if_pos c48] at hK
        refine o_iconst (pc' := 167) (x := (-1 : Int32)) X hx (hb hby d2_166) (by decide) rfl ?_
        exact o_retI X hx hret hlk (hb hby d2_167) (by decide) (by decide) eT (hK)

def f2_148 (v0 : List Int32) (x1 : Int32) (x2 : Int32) (x4 : Int32) (x5 : Int32) (x6 : Int32) : Int32 := (f2_151 8 v0 x1 x2 x4 x5 x6 (1 : Int32))
def s2_148 (v0 : List Int32) (x1 : Int32) (x2 : Int32) (x4 : Int32) (x5 : Int32) (x6 : Int32) : Prop := s2_151 8 v0 x1 x2 x4 x5 x6 (1 : Int32)
set_option maxRecDepth 65536 in
set_option maxHeartbeats 40000000 in
theorem b2_148 (C : own_Cx p s m meth c Z ag prog_66_method_2_code 10 "com/example/fairtally/fairtally/ledger/Utf8" (some .int) "sequenceLength") {T : State} {h : Heap} {z3 : Slot} {z7 : Slot} {z8 : Slot} {z9 : Slot} (a0 : Addr) (v0 : List Int32) (x1 : Int32) (x2 : Int32) (x4 : Int32) (x5 : Int32) (x6 : Int32) (X : Stand p l e R2 s m args below meth c T [] 0 0) (eT : T.heap = h) (Aa0 : own_AI Z h a0 .byte v0) (hz3 : One z3) (hz7 : One z7) (hz8 : One z8) (hz9 : One z9) (hs : s2_148 v0 x1 x2 x4 x5 x6) (hK : K (some (.int (f2_148 v0 x1 x2 x4 x5 x6))) h []) : own_Go p e below (own_Q s K cc2 ss2) T (mkF m 148 #[.val (.ref a0), .val (.int x1), .val (.int x2), z3, .val (.int x4), .val (.int x5), .val (.int x6), z7, z8, z9] []) := by
  obtain ⟨hx, hZ, hw, hby, hml, hown, hret, hlk, hnm⟩ := id C
  unfold f2_148 at hK
  unfold s2_148 at hs
  refine o_iconst (pc' := 149) (x := (1 : Int32)) X hx (hb hby d2_148) (by decide) rfl ?_
  refine o_istoreS (pc' := 151) (l' := #[.val (.ref a0), .val (.int x1), .val (.int x2), z3, .val (.int x4), .val (.int x5), .val (.int x6), .val (.int (1 : Int32)), z8, z9]) X hx (hb hby d2_149) rfl hz7 rfl rfl ?_
  exact b2_151 C 8 a0 v0 x1 x2 x4 x5 x6 (1 : Int32) X eT Aa0 hz3 hz8 hz9 hs hK

def f2_141 (v0 : List Int32) (x1 : Int32) (x2 : Int32) (x4 : Int32) (x5 : Int32) (t0 : Int32) : Int32 := (f2_148 v0 x1 x2 x4 x5 t0)
def s2_141 (v0 : List Int32) (x1 : Int32) (x2 : Int32) (x4 : Int32) (x5 : Int32) (t0 : Int32) : Prop := s2_148 v0 x1 x2 x4 x5 t0
set_option maxRecDepth 65536 in
set_option maxHeartbeats 40000000 in
theorem b2_141 (C : own_Cx p s m meth c Z ag prog_66_method_2_code 10 "com/example/fairtally/fairtally/ledger/Utf8" (some .int) "sequenceLength") {T : State} {h : Heap} {z3 : Slot} {z6 : Slot} {z7 : Slot} {z8 : Slot} {z9 : Slot} (a0 : Addr) (v0 : List Int32) (x1 : Int32) (x2 : Int32) (x4 : Int32) (x5 : Int32) (t0 : Int32) (X : Stand p l e R2 s m args below meth c T [] 0 0) (eT : T.heap = h) (Aa0 : own_AI Z h a0 .byte v0) (hz3 : One z3) (hz6 : One z6) (hz7 : One z7) (hz8 : One z8) (hz9 : One z9) (hs : s2_141 v0 x1 x2 x4 x5 t0) (hK : K (some (.int (f2_141 v0 x1 x2 x4 x5 t0))) h []) : own_Go p e below (own_Q s K cc2 ss2) T (mkF m 141 #[.val (.ref a0), .val (.int x1), .val (.int x2), z3, .val (.int x4), .val (.int x5), z6, z7, z8, z9] [(.int t0)]) := by
  obtain ⟨hx, hZ, hw, hby, hml, hown, hret, hlk, hnm⟩ := id C
  unfold f2_141 at hK
  unfold s2_141 at hs
  refine o_istoreS (pc' := 143) (l' := #[.val (.ref a0), .val (.int x1), .val (.int x2), z3, .val (.int x4), .val (.int x5), .val (.int t0), z7, z8, z9]) X hx (hb hby d2_141) rfl hz6 rfl rfl ?_
  refine o_goto (pc' := 148) X hx (hb hby d2_143) (by decide) (by decide) ?_
  exact b2_148 C a0 v0 x1 x2 x4 x5 t0 X eT Aa0 hz3 hz7 hz8 hz9 hs hK

def f2_124 (v0 : List Int32) (x1 : Int32) (x2 : Int32) (x3 : Int32) (x4 : Int32) (x6 : Int32) (t0 : Int32) : Int32 := (if x3 = (244 : Int32) then (f2_141 v0 x1 x2 x4 t0 (143 : Int32)) else (f2_141 v0 x1 x2 x4 t0 x6))
def s2_124 (v0 : List Int32) (x1 : Int32) (x2 : Int32) (x3 : Int32) (x4 : Int32) (x6 : Int32) (t0 : Int32) : Prop := ((x3 = (244 : Int32) → s2_141 v0 x1 x2 x4 t0 (143 : Int32)) ∧ (¬ (x3 = (244 : Int32)) → s2_141 v0 x1 x2 x4 t0 x6))
set_option maxRecDepth 65536 in
set_option maxHeartbeats 40000000 in
theorem b2_124 (C : own_Cx p s m meth c Z ag prog_66_method_2_code 10 "com/example/fairtally/fairtally/ledger/Utf8" (some .int) "sequenceLength") {T : State} {h : Heap} {z5 : Slot} {z7 : Slot} {z8 : Slot} {z9 : Slot} (a0 : Addr) (v0 : List Int32) (x1 : Int32) (x2 : Int32) (x3 : Int32) (x4 : Int32) (x6 : Int32) (t0 : Int32) (X : Stand p l e R2 s m args below meth c T [] 0 0) (eT : T.heap = h) (Aa0 : own_AI Z h a0 .byte v0) (hz5 : One z5) (hz7 : One z7) (hz8 : One z8) (hz9 : One z9) (hs : s2_124 v0 x1 x2 x3 x4 x6 t0) (hK : K (some (.int (f2_124 v0 x1 x2 x3 x4 x6 t0))) h []) : own_Go p e below (own_Q s K cc2 ss2) T (mkF m 124 #[.val (.ref a0), .val (.int x1), .val (.int x2), .val (.int x3), .val (.int x4), z5, .val (.int x6), z7, z8, z9] [(.int t0)]) := by
  obtain ⟨hx, hZ, hw, hby, hml, hown, hret, hlk, hnm⟩ := id C
  unfold f2_124 at hK
  unfold s2_124 at hs
  refine o_istoreS (pc' := 126) (l' := #[.val (.ref a0), .val (.int x1), .val (.int x2), .val (.int x3), .val (.int x4), .val (.int t0), .val (.int x6), z7, z8, z9]) X hx (hb hby d2_124) rfl hz5 rfl rfl ?_
  refine o_iloadN (pc' := 127) X hx (hb hby d2_126) rfl rfl ?_
  refine o_sipush (pc' := 130) (x := (244 : Int32)) X hx (hb hby d2_127) (by decide) rfl ?_
  refine o_icN (P := x3 = (244 : Int32)) (pc1 := 139) (pc2 := 133) X hx XT.ii_ne_f XT.ii_ne_t (hb hby d2_130) (by decide) (by decide) rfl (fun c46 => ?_) (fun c46 => ?_)
  · rw [if_neg c46] at hK
    refine o_iload (pc' := 141) X hx (hb hby d2_139) rfl rfl ?_
    exact b2_141 C a0 v0 x1 x2 x4 t0 x6 X eT Aa0 (One.val rfl) (One.val rfl) hz7 hz8 hz9 (hs.2 c46) hK
  · rw [if_pos c46] at hK
    refine o_sipush (pc' := 136) (x := (143 : Int32)) X hx (hb hby d2_133) (by decide) rfl ?_
    refine o_goto (pc' := 141) X hx (hb hby d2_136) (by decide) (by decide) ?_
    exact b2_141 C a0 v0 x1 x2 x4 t0 (143 : Int32) X eT Aa0 (One.val rfl) (One.val rfl) hz7 hz8 hz9 (hs.1 c46) hK

def f2_92 (v0 : List Int32) (x1 : Int32) (x2 : Int32) (x3 : Int32) (x5 : Int32) (x6 : Int32) : Int32 := (if x3 < (240 : Int32) then f2_146 else (if (244 : Int32) < x3 then f2_146 else (if x3 = (240 : Int32) then (f2_124 v0 x1 x2 x3 (4 : Int32) x6 (144 : Int32)) else (f2_124 v0 x1 x2 x3 (4 : Int32) x6 x5))))
def s2_92 (v0 : List Int32) (x1 : Int32) (x2 : Int32) (x3 : Int32) (x5 : Int32) (x6 : Int32) : Prop := ((x3 < (240 : Int32) → True) ∧ (¬ (x3 < (240 : Int32)) → (((244 : Int32) < x3 → True) ∧ (¬ ((244 : Int32) < x3) → ((x3 = (240 : Int32) → s2_124 v0 x1 x2 x3 (4 : Int32) x6 (144 : Int32)) ∧ (¬ (x3 = (240 : Int32)) → s2_124 v0 x1 x2 x3 (4 : Int32) x6 x5))))))
set_option maxRecDepth 65536 in
set_option maxHeartbeats 40000000 in
theorem b2_92 (C : own_Cx p s m meth c Z ag prog_66_method_2_code 10 "com/example/fairtally/fairtally/ledger/Utf8" (some .int) "sequenceLength") {T : State} {h : Heap} {z4 : Slot} {z7 : Slot} {z8 : Slot} {z9 : Slot} (a0 : Addr) (v0 : List Int32) (x1 : Int32) (x2 : Int32) (x3 : Int32) (x5 : Int32) (x6 : Int32) (X : Stand p l e R2 s m args below meth c T [] 0 0) (eT : T.heap = h) (Aa0 : own_AI Z h a0 .byte v0) (hz4 : One z4) (hz7 : One z7) (hz8 : One z8) (hz9 : One z9) (hs : s2_92 v0 x1 x2 x3 x5 x6) (hK : K (some (.int (f2_92 v0 x1 x2 x3 x5 x6))) h []) : own_Go p e below (own_Q s K cc2 ss2) T (mkF m 92 #[.val (.ref a0), .val (.int x1), .val (.int x2), .val (.int x3), z4, .val (.int x5), .val (.int x6), z7, z8, z9] []) := by
  obtain ⟨hx, hZ, hw, hby, hml, hown, hret, hlk, hnm⟩ := id C
  unfold f2_92 at hK
  unfold s2_92 at hs
  refine o_iloadN (pc' := 93) X hx (hb hby d2_92) rfl rfl ?_
  refine o_sipush (pc' := 96) (x := (240 : Int32)) X hx (hb hby d2_93) (by decide) rfl ?_
  refine o_icP (P := x3 < (240 : Int32)) (pc1 := 146) (pc2 := 99) X hx XT.ii_lt_t XT.ii_lt_f (hb hby d2_96) (by decide) (by decide) rfl (fun c43 => ?_) (fun c43 => ?_)
  · rw [if_pos c43] at hK
    exact b2_146 C X eT (One.val rfl) (One.val rfl) (One.val rfl) (One.val rfl) hz4 (One.val rfl) (One.val rfl) hz7 hz8 hz9 hK
  · rw [if_neg c43] at hK
    refine o_iloadN (pc' := 100) X hx (hb hby d2_99) rfl rfl ?_
    refine o_sipush (pc' := 103) (x := (244 : Int32)) X hx (hb hby d2_100) (by decide) rfl ?_
    refine o_icP (P := (244 : Int32) < x3) (pc1 := 146) (pc2 := 106) X hx XT.ii_gt_t XT.ii_gt_f (hb hby d2_103) (by decide) (by decide) rfl (fun c44 => ?_) (fun c44 => ?_)
    · rw [if_pos c44] at hK
      exact b2_146 C X eT (One.val rfl) (One.val rfl) (One.val rfl) (One.val rfl) hz4 (One.val rfl) (One.val rfl) hz7 hz8 hz9 hK
    · rw [if_neg c44] at hK
      refine o_iconst (pc' := 107) (x := (4 : Int32)) X hx (hb hby d2_106) (by decide) rfl ?_
      refine o_istoreS (pc' := 109) (l' := #[.val (.ref a0), .val (.int x1), .val (.int x2), .val (.int x3), .val (.int (4 : Int32)), .val (.int x5), .val (.int x6), z7, z8, z9]) X hx (hb hby d2_107) rfl hz4 rfl rfl ?_
      refine o_iloadN (pc' := 110) X hx (hb hby d2_109) rfl rfl ?_
      refine o_sipush (pc' := 113) (x := (240 : Int32)) X hx (hb hby d2_110) (by decide) rfl ?_
      refine o_icN (P := x3 = (240 : Int32)) (pc1 := 122) (pc2 := 116) X hx XT.ii_ne_f XT.ii_ne_t (hb hby d2_113) (by decide) (by decide) rfl (fun c45 => ?_) (fun c45 => ?_)
      · rw [if_neg c45] at hK
        refine o_iload (pc' := 124) X hx (hb hby d2_122) rfl rfl ?_
        exact b2_124 C a0 v0 x1 x2 x3 (4 : Int32) x6 x5 X eT Aa0 (One.val rfl) hz7 hz8 hz9 (((hs.2 c43).2 c44).2 c45) hK
      · rw [if_pos c45] at hK
        refine o_sipush (pc' := 119) (x := (144 : Int32)) X hx (hb hby d2_116) (by decide) rfl ?_
        refine o_goto (pc' := 124) X hx (hb hby d2_119) (by decide) (by decide) ?_
        exact b2_124 C a0 v0 x1 x2 x3 (4 : Int32) x6 (144 : Int32) X eT Aa0 (One.val rfl) hz7 hz8 hz9 (((hs.2 c43).2 c44).1 c45) hK

def f2_87 (v0 : List Int32) (x1 : Int32) (x2 : Int32) (x4 : Int32) (x5 : Int32) (t0 : Int32) : Int32 := (f2_148 v0 x1 x2 x4 x5 t0)
def s2_87 (v0 : List Int32) (x1 : Int32) (x2 : Int32) (x4 : Int32) (x5 : Int32) (t0 : Int32) : Prop := s2_148 v0 x1 x2 x4 x5 t0
set_option maxRecDepth 65536 in
set_option maxHeartbeats 40000000 in
theorem b2_87 (C : own_Cx p s m meth c Z ag prog_66_method_2_code 10 "com/example/fairtally/fairtally/ledger/Utf8" (some .int) "sequenceLength") {T : State} {h : Heap} {z3 : Slot} {z6 : Slot} {z7 : Slot} {z8 : Slot} {z9 : Slot} (a0 : Addr) (v0 : List Int32) (x1 : Int32) (x2 : Int32) (x4 : Int32) (x5 : Int32) (t0 : Int32) (X : Stand p l e R2 s m args below meth c T [] 0 0) (eT : T.heap = h) (Aa0 : own_AI Z h a0 .byte v0) (hz3 : One z3) (hz6 : One z6) (hz7 : One z7) (hz8 : One z8) (hz9 : One z9) (hs : s2_87 v0 x1 x2 x4 x5 t0) (hK : K (some (.int (f2_87 v0 x1 x2 x4 x5 t0))) h []) : own_Go p e below (own_Q s K cc2 ss2) T (mkF m 87 #[.val (.ref a0), .val (.int x1), .val (.int x2), z3, .val (.int x4), .val (.int x5), z6, z7, z8, z9] [(.int t0)]) := by
  obtain ⟨hx, hZ, hw, hby, hml, hown, hret, hlk, hnm⟩ := id C
  unfold f2_87 at hK
  unfold s2_87 at hs
  refine o_istoreS (pc' := 89) (l' := #[.val (.ref a0), .val (.int x1), .val (.int x2), z3, .val (.int x4), .val (.int x5), .val (.int t0), z7, z8, z9]) X hx (hb hby d2_87) rfl hz6 rfl rfl ?_
  refine o_goto (pc' := 148) X hx (hb hby d2_89) (by decide) (by decide) ?_
  exact b2_148 C a0 v0 x1 x2 x4 x5 t0 X eT Aa0 hz3 hz7 hz8 hz9 hs hK

def f2_70 (v0 : List Int32) (x1 : Int32) (x2 : Int32) (x3 : Int32) (x4 : Int32) (x6 : Int32) (t0 : Int32) : Int32 := (if x3 = (237 : Int32) then (f2_87 v0 x1 x2 x4 t0 (159 : Int32)) else (f2_87 v0 x1 x2 x4 t0 x6))
def s2_70 (v0 : List Int32) (x1 : Int32) (x2 : Int32) (x3 : Int32) (x4 : Int32) (x6 : Int32) (t0 : Int32) : Prop := ((x3 = (237 : Int32) → s2_87 v0 x1 x2 x4 t0 (159 : Int32)) ∧ (¬ (x3 = (237 : Int32)) → s2_87 v0 x1 x2 x4 t0 x6))
set_option maxRecDepth 65536 in
set_option maxHeartbeats 40000000 in
theorem b2_70 (C : own_Cx p s m meth c Z ag prog_66_method_2_code 10 "com/example/fairtally/fairtally/ledger/Utf8" (some .int) "sequenceLength") {T : State} {h : Heap} {z5 : Slot} {z7 : Slot} {z8 : Slot} {z9 : Slot} (a0 : Addr) (v0 : List Int32) (x1 : Int32) (x2 : Int32) (x3 : Int32) (x4 : Int32) (x6 : Int32) (t0 : Int32) (X : Stand p l e R2 s m args below meth c T [] 0 0) (eT : T.heap = h) (Aa0 : own_AI Z h a0 .byte v0) (hz5 : One z5) (hz7 : One z7) (hz8 : One z8) (hz9 : One z9) (hs : s2_70 v0 x1 x2 x3 x4 x6 t0) (hK : K (some (.int (f2_70 v0 x1 x2 x3 x4 x6 t0))) h []) : own_Go p e below (own_Q s K cc2 ss2) T (mkF m 70 #[.val (.ref a0), .val (.int x1), .val (.int x2), .val (.int x3), .val (.int x4), z5, .val (.int x6), z7, z8, z9] [(.int t0)]) := by
  obtain ⟨hx, hZ, hw, hby, hml, hown, hret, hlk, hnm⟩ := id C
  unfold f2_70 at hK
  unfold s2_70 at hs
  refine o_istoreS (pc' := 72) (l' := #[.val (.ref a0), .val (.int x1), .val (.int x2), .val (.int x3), .val (.int x4), .val (.int t0), .val (.int x6), z7, z8, z9]) X hx (hb hby d2_70) rfl hz5 rfl rfl ?_
  refine o_iloadN (pc' := 73) X hx (hb hby d2_72) rfl rfl ?_
  refine o_sipush (pc' := 76) (x := (237 : Int32)) X hx (hb hby d2_73) (by decide) rfl ?_
  refine o_icN (P := x3 = (237 : Int32)) (pc1 := 85) (pc2 := 79) X hx XT.ii_ne_f XT.ii_ne_t (hb hby d2_76) (by decide) (by decide) rfl (fun c56 => ?_) (fun c56 => ?_)
  · rw [if_neg c56] at hK
    refine o_iload (pc' := 87) X hx (hb hby d2_85) rfl rfl ?_
    exact b2_87 C a0 v0 x1 x2 x4 t0 x6 X eT Aa0 (One.val rfl) (One.val rfl) hz7 hz8 hz9 (hs.2 c56) hK
  · rw [if_pos c56] at hK
    refine o_sipush (pc' := 82) (x := (159 : Int32)) X hx (hb hby d2_79) (by decide) rfl ?_
    refine o_goto (pc' := 87) X hx (hb hby d2_82) (by decide) (by decide) ?_
    exact b2_87 C a0 v0 x1 x2 x4 t0 (159 : Int32) X eT Aa0 (One.val rfl) (One.val rfl) hz7 hz8 hz9 (hs.1 c56) hK

def f2_38 (v0 : List Int32) (x1 : Int32) (x2 : Int32) (x3 : Int32) (x5 : Int32) (x6 : Int32) : Int32 := (if x3 < (224 : Int32) then (f2_92 v0 x1 x2 x3 x5 x6) else (if (239 : Int32) < x3 then (f2_92 v0 x1 x2 x3 x5 x6) else (if x3 = (224 : Int32) then (f2_70 v0 x1 x2 x3 (3 : Int32) x6 (160 : Int32)) else (f2_70 v0 x1 x2 x3 (3 : Int32) x6 x5))))
def s2_38 (v0 : List Int32) (x1 : Int32) (x2 : Int32) (x3 : Int32) (x5 : Int32) (x6 : Int32) : Prop := ((x3 < (224 : Int32) → s2_92 v0 x1 x2 x3 x5 x6) ∧ (¬ (x3 < (224 : Int32)) → (((239 : Int32) < x3 → s2_92 v0 x1 x2 x3 x5 x6) ∧ (¬ ((239 : Int32) < x3) → ((x3 = (224 : Int32) → s2_70 v0 x1 x2 x3 (3 : Int32) x6 (160 : Int32)) ∧ (¬ (x3 = (224 : Int32)) → s2_70 v0 x1 x2 x3 (3 : Int32) x6 x5))))))
set_option maxRecDepth 65536 in
set_option maxHeartbeats 40000000 in
theorem b2_38 (C : own_Cx p s m meth c Z ag prog_66_method_2_code 10 "com/example/fairtally/fairtally/ledger/Utf8" (some .int) "sequenceLength") {T : State} {h : Heap} {z4 : Slot} {z7 : Slot} {z8 : Slot} {z9 : Slot} (a0 : Addr) (v0 : List Int32) (x1 : Int32) (x2 : Int32) (x3 : Int32) (x5 : Int32) (x6 : Int32) (X : Stand p l e R2 s m args below meth c T [] 0 0) (eT : T.heap = h) (Aa0 : own_AI Z h a0 .byte v0) (hz4 : One z4) (hz7 : One z7) (hz8 : One z8) (hz9 : One z9) (hs : s2_38 v0 x1 x2 x3 x5 x6) (hK : K (some (.int (f2_38 v0 x1 x2 x3 x5 x6))) h []) : own_Go p e below (own_Q s K cc2 ss2) T (mkF m 38 #[.val (.ref a0), .val (.int x1), .val (.int x2), .val (.int x3), z4, .val (.int x5), .val (.int x6), z7, z8, z9] []) := by
  obtain ⟨hx, hZ, hw, hby, hml, hown, hret, hlk, hnm⟩ := id C
  unfold f2_38 at hK
  unfold s2_38 at hs
  refine o_iloadN (pc' := 39) X hx (hb hby d2_38) rfl rfl ?_
  refine o_sipush (pc' := 42) (x := (224 : Int32)) X hx (hb hby d2_39) (by decide) rfl ?_
  refine o_icP (P := x3 < (224 : Int32)) (pc1 := 92) (pc2 := 45) X hx XT.ii_lt_t XT.ii_lt_f (hb hby d2_42) (by decide) (by decide) rfl (fun c42 => ?_) (fun c42 => ?_)
  · rw [if_pos c42] at hK
    exact b2_92 C a0 v0 x1 x2 x3 x5 x6 X eT Aa0 hz4 hz7 hz8 hz9 (hs.1 c42) hK
  · rw [if_neg c42] at hK
    refine o_iloadN (pc' := 46) X hx (hb hby d2_45) rfl rfl ?_
    refine o_sipush (pc' := 49) (x := (239 : Int32)) X hx (hb hby d2_46) (by decide) rfl ?_
    refine o_icP (P := (239 : Int32) < x3) (pc1 := 92) (pc2 := 52) X hx XT.ii_gt_t XT.ii_gt_f (hb hby d2_49) (by decide) (by decide) rfl (fun c54 => ?_) (fun c54 => ?_)
    · rw [if_pos c54] at hK
      exact b2_92 C a0 v0 x1 x2 x3 x5 x6 X eT Aa0 hz4 hz7 hz8 hz9 ((hs.2 c42).1 c54) hK
    · rw [if_neg c54] at hK
      refine o_iconst (pc' := 53) (x := (3 : Int32)) X hx (hb hby d2_52) (by decide) rfl ?_
      refine o_istoreS (pc' := 55) (l' := #[.val (.ref a0), .val (.int x1), .val (.int x2), .val (.int x3), .val (.int (3 : Int32)), .val (.int x5), .val (.int x6), z7, z8, z9]) X hx (hb hby d2_53) rfl hz4 rfl rfl ?_
      refine o_iloadN (pc' := 56) X hx (hb hby d2_55) rfl rfl ?_
      refine o_sipush (pc' := 59) (x := (224 : Int32)) X hx (hb hby d2_56) (by decide) rfl ?_
      refine o_icN (P := x3 = (224 : Int32)) (pc1 := 68) (pc2 := 62) X hx XT.ii_ne_f XT.ii_ne_t (hb hby d2_59) (by decide) (by decide) rfl (fun c55 => ?_) (fun c55 => ?_)
      · rw [if_neg c55] at hK
        refine o_iload (pc' := 70) X hx (hb hby d2_68) rfl rfl ?_
        exact b2_70 C a0 v0 x1 x2 x3 (3 : Int32) x6 x5 X eT Aa0 (One.val rfl) hz7 hz8 hz9 (((hs.2 c42).2 c54).2 c55) hK
      · rw [if_pos c55] at hK
        refine o_sipush (pc' := 65) (x := (160 : Int32)) X hx (hb hby d2_62) (by decide) rfl ?_
        refine o_goto (pc' := 70) X hx (hb hby d2_65) (by decide) (by decide) ?_
        exact b2_70 C a0 v0 x1 x2 x3 (3 : Int32) x6 (160 : Int32) X eT Aa0 (One.val rfl) hz7 hz8 hz9 (((hs.2 c42).2 c54).1 c55) hK

def f2_0 (v0 : List Int32) (p1 : Int32) (p2 : Int32) : Int32 := (if ((own_get v0 p1) &&& (255 : Int32)) < (194 : Int32) then (f2_38 v0 p1 p2 ((own_get v0 p1) &&& (255 : Int32)) (128 : Int32) (191 : Int32)) else (if (223 : Int32) < ((own_get v0 p1) &&& (255 : Int32)) then (f2_38 v0 p1 p2 ((own_get v0 p1) &&& (255 : Int32)) (128 : Int32) (191 : Int32)) else (f2_148 v0 p1 p2 (2 : Int32) (128 : Int32) (191 : Int32))))
def s2_0 (v0 : List Int32) (p1 : Int32) (p2 : Int32) : Prop := (own_in v0.length p1 ∧ ((((own_get v0 p1) &&& (255 : Int32)) < (194 : Int32) → s2_38 v0 p1 p2 ((own_get v0 p1) &&& (255 : Int32)) (128 : Int32) (191 : Int32)) ∧ (¬ (((own_get v0 p1) &&& (255 : Int32)) < (194 : Int32)) → (((223 : Int32) < ((own_get v0 p1) &&& (255 : Int32)) → s2_38 v0 p1 p2 ((own_get v0 p1) &&& (255 : Int32)) (128 : Int32) (191 : Int32)) ∧ (¬ ((223 : Int32) < ((own_get v0 p1) &&& (255 : Int32))) → s2_148 v0 p1 p2 (2 : Int32) (128 : Int32) (191 : Int32))))))
set_option maxRecDepth 65536 in
set_option maxHeartbeats 40000000 in
theorem b2_0 (C : own_Cx p s m meth c Z ag prog_66_method_2_code 10 "com/example/fairtally/fairtally/ledger/Utf8" (some .int) "sequenceLength") {T : State} {h : Heap} (a0 : Addr) (v0 : List Int32) (p1 : Int32) (p2 : Int32) (X : Stand p l e R2 s m args below meth c T [] 0 0) (eT : T.heap = h) (Aa0 : own_AI Z h a0 .byte v0) (hs : s2_0 v0 p1 p2) (hK : K (some (.int (f2_0 v0 p1 p2))) h []) : own_Go p e below (own_Q s K cc2 ss2) T (mkF m 0 #[.val (.ref a0), .val (.int p1), .val (.int p2), .unset, .unset, .unset, .unset, .unset, .unset, .unset] []) := by
  obtain ⟨hx, hZ, hw, hby, hml, hown, hret, hlk, hnm⟩ := id C
  unfold f2_0 at hK
  unfold s2_0 at hs
  refine o_aloadN (pc' := 1) X hx (hb hby d2_0) rfl rfl rfl ?_
  refine o_iloadN (pc' := 2) X hx (hb hby d2_1) rfl rfl ?_
  refine o_baload (pc' := 3)  X hx hZ eT Aa0 hs.1 (hb hby d2_2) rfl rfl ?_
  refine o_sipush (pc' := 6) (x := (255 : Int32)) X hx (hb hby d2_3) (by decide) rfl ?_
  refine o_iand (pc' := 7)  X hx (hb hby d2_6) rfl rfl ?_
  refine o_istoreN (pc' := 8) (l' := #[.val (.ref a0), .val (.int p1), .val (.int p2), .val (.int ((own_get v0 p1) &&& (255 : Int32))), .unset, .unset, .unset, .unset, .unset, .unset]) X hx (hb hby d2_7) rfl rfl ?_
  refine o_sipush (pc' := 11) (x := (128 : Int32)) X hx (hb hby d2_8) (by decide) rfl ?_
  refine o_istore (pc' := 13) (l' := #[.val (.ref a0), .val (.int p1), .val (.int p2), .val (.int ((own_get v0 p1) &&& (255 : Int32))), .unset, .val (.int (128 : Int32)), .unset, .unset, .unset, .unset]) X hx (hb hby d2_11) rfl rfl ?_
  refine o_sipush (pc' := 16) (x := (191 : Int32)) X hx (hb hby d2_13) (by decide) rfl ?_
  refine o_istore (pc' := 18) (l' := #[.val (.ref a0), .val (.int p1), .val (.int p2), .val (.int ((own_get v0 p1) &&& (255 : Int32))), .unset, .val (.int (128 : Int32)), .val (.int (191 : Int32)), .unset, .unset, .unset]) X hx (hb hby d2_16) rfl rfl ?_
  refine o_iloadN (pc' := 19) X hx (hb hby d2_18) rfl rfl ?_
  refine o_sipush (pc' := 22) (x := (194 : Int32)) X hx (hb hby d2_19) (by decide) rfl ?_
  refine o_icP (P := ((own_get v0 p1) &&& (255 : Int32)) < (194 : Int32)) (pc1 := 38) (pc2 := 25) X hx XT.ii_lt_t XT.ii_lt_f (hb hby d2_22) (by decide) (by decide) rfl (fun c41 => ?_) (fun c41 => ?_)
  · rw [if_pos c41] at hK
    exact b2_38 C a0 v0 p1 p2 ((own_get v0 p1) &&& (255 : Int32)) (128 : Int32) (191 : Int32) X eT Aa0 One.u One.u One.u One.u (hs.2.1 c41) hK
  · rw [if_neg c41] at hK
    refine o_iloadN (pc' := 26) X hx (hb hby d2_25) rfl rfl ?_
    refine o_sipush (pc' := 29) (x := (223 : Int32)) X hx (hb hby d2_26) (by decide) rfl ?_
    refine o_icP (P := (223 : Int32) < ((own_get v0 p1) &&& (255 : Int32))) (pc1 := 38) (pc2 := 32) X hx XT.ii_gt_t XT.ii_gt_f (hb hby d2_29) (by decide) (by decide) rfl (fun c57 => ?_) (fun c57 => ?_)
    · rw [if_pos c57] at hK
      exact b2_38 C a0 v0 p1 p2 ((own_get v0 p1) &&& (255 : Int32)) (128 : Int32) (191 : Int32) X eT Aa0 One.u One.u One.u One.u ((hs.2.2 c41).1 c57) hK
    · rw [if_neg c57] at hK
      refine o_iconst (pc' := 33) (x := (2 : Int32)) X hx (hb hby d2_32) (by decide) rfl ?_
      refine o_istore (pc' := 35) (l' := #[.val (.ref a0), .val (.int p1), .val (.int p2), .val (.int ((own_get v0 p1) &&& (255 : Int32))), .val (.int (2 : Int32)), .val (.int (128 : Int32)), .val (.int (191 : Int32)), .unset, .unset, .unset]) X hx (hb hby d2_33) rfl rfl ?_
      refine o_goto (pc' := 148) X hx (hb hby d2_35) (by decide) (by decide) ?_
      exact b2_148 C a0 v0 p1 p2 (2 : Int32) (128 : Int32) (191 : Int32) X eT Aa0 (One.val rfl) One.u One.u One.u ((hs.2.2 c41).2 c57) hK

end Body2
theorem pn_Utf8 : plainName "com/example/fairtally/fairtally/ledger/Utf8" = true := by first | (simp [plainName, overriddenIn]; done) | decide +kernel
theorem ef_2 (m : MethodId) (a0 : Addr) (p1 : Int32) (p2 : Int32) : entryFrame m #[(.ref a0), (.int p1), (.int p2)] 10 = mkF m 0 #[.val (.ref a0), .val (.int p1), .val (.int p2), .unset, .unset, .unset, .unset, .unset, .unset, .unset] [] := by first | (simp [entryFrame, mkF, argsToLocals, Value.category]; done) | rfl
set_option maxRecDepth 65536 in
set_option maxHeartbeats 40000000 in
theorem rm2 (l : Launch) (Z : State) (ag : Array Value) (hw : ∀ d ∈ tables_1, d.before ag Z = true) (ws : List Jvm.Cond) (a0 : Addr) (v0 : List Int32) (p1 : Int32) (p2 : Int32) (h0 : Heap) (Aa0 : own_AI Z h0 a0 .byte v0) (hs : s2_0 v0 p1 p2) :
    MetFree l (⟨"com/example/fairtally/fairtally/ledger/Utf8", "sequenceLength", "([BII)I"⟩ : MethodName) (head1 (Jvm.Cond.code (⟨"com/example/fairtally/fairtally/ledger/Utf8", "sequenceLength", "([BII)I"⟩ : MethodName) prog_66_method_2_code 10 (some .int) :: ws) R2) (fun a U => a = #[(.ref a0), (.int p1), (.int p2)] ∧ Z.Warmed39 U.vm ∧ U.heap = h0) (fun _ _ _ _ _ => True) (fun _ U o U' => ∃ v L, o = .returned v ∧ own_KP (some (.int (f2_0 v0 p1 p2))) h0 v U'.heap L ∧ FrameEnd U o U' L R2.cells R2.slots) := by
  refine MetFree.of_bodySF (plainFor_of_name pn_Utf8) hisR ?_
  intro p e s m args below meth c s₁ Bd hml0 hP hK
  obtain ⟨rfl, hZ, hh⟩ := hP
  have C : own_Cx p s m meth c Z ag prog_66_method_2_code 10 "com/example/fairtally/fairtally/ledger/Utf8" (some .int) "sequenceLength" := ⟨Bd.exec, hZ, hw, Bd.bytes, hml0, findClass_of_methodNamed Bd.named, Bd.returns, Bd.notSynchronized, (name_of_methodNamed Bd.named Bd.method).1⟩
  have X0 : Stand p l e R2 s m #[(.ref a0), (.int p1), (.int p2)] below meth c s₁ [] 0 0 := Stand.of_body Bd
  have e0 : s₁.heap = h0 := by rw [← hh, Bd.state]; rfl
  rw [ef_2]
  exact b2_0 (K := own_KP (some (.int (f2_0 v0 p1 p2))) h0) C a0 v0 p1 p2 X0 e0 Aa0 hs ⟨rfl, rfl, rfl⟩

section Body0
variable {p : Program} {l : Launch} {e : Env} {s : State} {m : MethodId} {args : Array Value} {below : List Frame} {meth : Method} {c : Code} {Z : State} {ag : Array Value} {K : Option Value → Heap → List Loc → Prop}
abbrev R0 : Room := room_1
abbrev cc0 : Nat := 1
abbrev ss0 : Nat := 5
def f0_101 : Int32 := (0 : Int32)
set_option maxRecDepth 65536 in
set_option maxHeartbeats 40000000 in
theorem b0_101 (C : own_Cx p s m meth c Z ag code maxLocals "com/example/fairtally/fairtally/ledger/Utf8SequenceLengthPinLaw" ret "law") {T : State} {h : Heap} {z0 : Slot} {z1 : Slot} {z2 : Slot} {z3 : Slot} {z4 : Slot} {z5 : Slot} {z6 : Slot} {z7 : Slot} {z8 : Slot} {z9 : Slot} {z10 : Slot} (X : Stand p l e R0 s m args below meth c T [] 1 5) (eT : T.heap = h) (hz0 : One z0) (hz1 : One z1) (hz2 : One z2) (hz3 : One z3) (hz4 : One z4) (hz5 : One z5) (hz6 : One z6) (hz7 : One z7) (hz8 : One z8) (hz9 : One z9) (hz10 : One z10) (hK : ∀ h', K (some (.int (f0_101))) h' []) : own_Go p e below (own_Q s K cc0 ss0) T (mkF m 101 #[z0, z1, z2, z3, z4, z5, z6, z7, z8, z9, z10] [(.int (0 : Int32))]) := by
  obtain ⟨hx, hZ, hw, hby, hml, hown, hret, hlk, hnm⟩ := id C
  unfold f0_101 at hK
  exact o_retN X hx (t := .boolean) hret (by simp) hlk (hb hby at_101) (by decide) (by decide) eT (hK _)

def f0_101_2 : Int32 := (1 : Int32)
set_option maxRecDepth 65536 in
set_option maxHeartbeats 40000000 in
theorem b0_101_2 (C : own_Cx p s m meth c Z ag code maxLocals "com/example/fairtally/fairtally/ledger/Utf8SequenceLengthPinLaw" ret "law") {T : State} {h : Heap} {z0 : Slot} {z1 : Slot} {z2 : Slot} {z3 : Slot} {z4 : Slot} {z5 : Slot} {z6 : Slot} {z7 : Slot} {z8 : Slot} {z9 : Slot} {z10 : Slot} (X : Stand p l e R0 s m args below meth c T [] 1 5) (eT : T.heap = h) (hz0 : One z0) (hz1 : One z1) (hz2 : One z2) (hz3 : One z3) (hz4 : One z4) (hz5 : One z5) (hz6 : One z6) (hz7 : One z7) (hz8 : One z8) (hz9 : One z9) (hz10 : One z10) (hK : ∀ h', K (some (.int (f0_101_2))) h' []) : own_Go p e below (own_Q s K cc0 ss0) T (mkF m 101 #[z0, z1, z2, z3, z4, z5, z6, z7, z8, z9, z10] [(.int (1 : Int32))]) := by
  obtain ⟨hx, hZ, hw, hby, hml, hown, hret, hlk, hnm⟩ := id C
  unfold f0_101_2 at hK
  exact o_retN X hx (t := .boolean) hret (by simp) hlk (hb hby at_101) (by decide) (by decide) eT (hK _)

def f0_0 (p0 : Int32) (p1 : Int32) (p2 : Int32) (p3 : Int32) (p4 : Int32) (p5 : Int32) : Int32 := (if (f2_0 (own_set [(own_i2b (own_i2b p1)), (own_i2b (own_i2b p2)), (own_i2b (own_i2b p3)), (own_i2b (own_i2b p4)), (own_i2b (own_i2b p5))] (p0 &&& (1 : Int32)) (own_i2b (own_i2b ((own_get [(own_i2b (own_i2b p1)), (own_i2b (own_i2b p2)), (own_i2b (own_i2b p3)), (own_i2b (own_i2b p4)), (own_i2b (own_i2b p5))] (p0 &&& (1 : Int32))) ||| (128 : Int32))))) (p0 &&& (1 : Int32)) (((p0 &&& (1 : Int32)) + (1 : Int32)) + (own_rem (own_ushr p0 (1 : Int32)) ((5 : Int32) - (p0 &&& (1 : Int32)))))) = (f1_0 (own_set [(own_i2b (own_i2b p1)), (own_i2b (own_i2b p2)), (own_i2b (own_i2b p3)), (own_i2b (own_i2b p4)), (own_i2b (own_i2b p5))] (p0 &&& (1 : Int32)) (own_i2b (own_i2b ((own_get [(own_i2b (own_i2b p1)), (own_i2b (own_i2b p2)), (own_i2b (own_i2b p3)), (own_i2b (own_i2b p4)), (own_i2b (own_i2b p5))] (p0 &&& (1 : Int32))) ||| (128 : Int32))))) (p0 &&& (1 : Int32)) (((p0 &&& (1 : Int32)) + (1 : Int32)) + (own_rem (own_ushr p0 (1 : Int32)) ((5 : Int32) - (p0 &&& (1 : Int32)))))) then f0_101_2 else f0_101)
def s0_0 (p0 : Int32) (p1 : Int32) (p2 : Int32) (p3 : Int32) (p4 : Int32) (p5 : Int32) : Prop := (own_in [(own_i2b (own_i2b p1)), (own_i2b (own_i2b p2)), (own_i2b (own_i2b p3)), (own_i2b (own_i2b p4)), (own_i2b (own_i2b p5))].length (p0 &&& (1 : Int32)) ∧ own_in [(own_i2b (own_i2b p1)), (own_i2b (own_i2b p2)), (own_i2b (own_i2b p3)), (own_i2b (own_i2b p4)), (own_i2b (own_i2b p5))].length (p0 &&& (1 : Int32)) ∧ ¬ (((5 : Int32) - (p0 &&& (1 : Int32))) = 0) ∧ (s1_0 (own_set [(own_i2b (own_i2b p1)), (own_i2b (own_i2b p2)), (own_i2b (own_i2b p3)), (own_i2b (own_i2b p4)), (own_i2b (own_i2b p5))] (p0 &&& (1 : Int32)) (own_i2b (own_i2b ((own_get [(own_i2b (own_i2b p1)), (own_i2b (own_i2b p2)), (own_i2b (own_i2b p3)), (own_i2b (own_i2b p4)), (own_i2b (own_i2b p5))] (p0 &&& (1 : Int32))) ||| (128 : Int32))))) (p0 &&& (1 : Int32)) (((p0 &&& (1 : Int32)) + (1 : Int32)) + (own_rem (own_ushr p0 (1 : Int32)) ((5 : Int32) - (p0 &&& (1 : Int32)))))) ∧ (s2_0 (own_set [(own_i2b (own_i2b p1)), (own_i2b (own_i2b p2)), (own_i2b (own_i2b p3)), (own_i2b (own_i2b p4)), (own_i2b (own_i2b p5))] (p0 &&& (1 : Int32)) (own_i2b (own_i2b ((own_get [(own_i2b (own_i2b p1)), (own_i2b (own_i2b p2)), (own_i2b (own_i2b p3)), (own_i2b (own_i2b p4)), (own_i2b (own_i2b p5))] (p0 &&& (1 : Int32))) ||| (128 : Int32))))) (p0 &&& (1 : Int32)) (((p0 &&& (1 : Int32)) + (1 : Int32)) + (own_rem (own_ushr p0 (1 : Int32)) ((5 : Int32) - (p0 &&& (1 : Int32)))))) ∧ True)
set_option maxRecDepth 65536 in
set_option maxHeartbeats 40000000 in
theorem b0_0 (C : own_Cx p s m meth c Z ag code maxLocals "com/example/fairtally/fairtally/ledger/Utf8SequenceLengthPinLaw" ret "law") {T : State} {h : Heap} (p0 : Int32) (p1 : Int32) (p2 : Int32) (p3 : Int32) (p4 : Int32) (p5 : Int32) (X : Stand p l e R0 s m args below meth c T [] 0 0) (eT : T.heap = h) (hs : s0_0 p0 p1 p2 p3 p4 p5) (hK : ∀ h', K (some (.int (f0_0 p0 p1 p2 p3 p4 p5))) h' []) : own_Go p e below (own_Q s K cc0 ss0) T (mkF m 0 #[.val (.int p0), .val (.int p1), .val (.int p2), .val (.int p3), .val (.int p4), .val (.int p5), .unset, .unset, .unset, .unset, .unset] []) := by
  obtain ⟨hx, hZ, hw, hby, hml, hown, hret, hlk, hnm⟩ := id C
  unfold f0_0 at hK
  unfold s0_0 at hs
  refine o_iconst (pc' := 1) (x := (5 : Int32)) X hx (hb hby at_0) (by decide) rfl ?_
  refine o_newI (pc' := 3) (cap := 5) (vs := [(0 : Int32), (0 : Int32), (0 : Int32), (0 : Int32), (0 : Int32)]) X hx hZ eT (hw _ (List.mem_of_getElem? (i := 0) rfl)) rfl rfl (hb hby at_1) rfl (by decide) (by decide) (by decide) (by decide) (by decide) rfl fun T58 h58 b58 X58 e58 q58 E58 A58 => ?_
  have g58 : s.heap.size ≤ b58 := q58 ▸ own_sz X eT
  refine o_dup (pc' := 4) X58 hx (hb hby at_3) rfl rfl ?_
  refine o_iconst (pc' := 5) (x := (0 : Int32)) X58 hx (hb hby at_4) (by decide) rfl ?_
  refine o_iloadN (pc' := 6) X58 hx (hb hby at_5) rfl rfl ?_
  refine o_i2b (pc' := 7)  X58 hx (hb hby at_6) rfl rfl ?_
  refine o_bastore (pc' := 8) (vs' := [(own_i2b (own_i2b p1)), (0 : Int32), (0 : Int32), (0 : Int32), (0 : Int32)]) X58 hx hZ e58 A58 ⟨by decide, Nat.le_of_ble_eq_true rfl⟩ (hb hby at_7) rfl rfl fun T59 h59 X59 e59 W59 A59 => ?_
  have Y59 := own_drop X59 g58
  refine o_dup (pc' := 9) Y59 hx (hb hby at_8) rfl rfl ?_
  refine o_iconst (pc' := 10) (x := (1 : Int32)) Y59 hx (hb hby at_9) (by decide) rfl ?_
  refine o_iloadN (pc' := 11) Y59 hx (hb hby at_10) rfl rfl ?_
  refine o_i2b (pc' := 12)  Y59 hx (hb hby at_11) rfl rfl ?_
  refine o_bastore (pc' := 13) (vs' := [(own_i2b (own_i2b p1)), (own_i2b (own_i2b p2)), (0 : Int32), (0 : Int32), (0 : Int32)]) Y59 hx hZ e59 A59 ⟨by decide, Nat.le_of_ble_eq_true rfl⟩ (hb hby at_12) rfl rfl fun T60 h60 X60 e60 W60 A60 => ?_
  have Y60 := own_drop X60 g58
  refine o_dup (pc' := 14) Y60 hx (hb hby at_13) rfl rfl ?_
  refine o_iconst (pc' := 15) (x := (2 : Int32)) Y60 hx (hb hby at_14) (by decide) rfl ?_
  refine o_iloadN (pc' := 16) Y60 hx (hb hby at_15) rfl rfl ?_
  refine o_i2b (pc' := 17)  Y60 hx (hb hby at_16) rfl rfl ?_
  refine o_bastore (pc' := 18) (vs' := [(own_i2b (own_i2b p1)), (own_i2b (own_i2b p2)), (own_i2b (own_i2b p3)), (0 : Int32), (0 : Int32)]) Y60 hx hZ e60 A60 ⟨by decide, Nat.le_of_ble_eq_true rfl⟩ (hb hby at_17) rfl rfl fun T61 h61 X61 e61 W61 A61 => ?_
  have Y61 := own_drop X61 g58
  refine o_dup (pc' := 19) Y61 hx (hb hby at_18) rfl rfl ?_
  refine o_iconst (pc' := 20) (x := (3 : Int32)) Y61 hx (hb hby at_19) (by decide) rfl ?_
  refine o_iload (pc' := 22) Y61 hx (hb hby at_20) rfl rfl ?_
  refine o_i2b (pc' := 23)  Y61 hx (hb hby at_22) rfl rfl ?_
  refine o_bastore (pc' := 24) (vs' := [(own_i2b (own_i2b p1)), (own_i2b (own_i2b p2)), (own_i2b (own_i2b p3)), (own_i2b (own_i2b p4)), (0 : Int32)]) Y61 hx hZ e61 A61 ⟨by decide, Nat.le_of_ble_eq_true rfl⟩ (hb hby at_23) rfl rfl fun T62 h62 X62 e62 W62 A62 => ?_
  have Y62 := own_drop X62 g58
  refine o_dup (pc' := 25) Y62 hx (hb hby at_24) rfl rfl ?_
  refine o_iconst (pc' := 26) (x := (4 : Int32)) Y62 hx (hb hby at_25) (by decide) rfl ?_
  refine o_iload (pc' := 28) Y62 hx (hb hby at_26) rfl rfl ?_
  refine o_i2b (pc' := 29)  Y62 hx (hb hby at_28) rfl rfl ?_
  refine o_bastore (pc' := 30) (vs' := [(own_i2b (own_i2b p1)), (own_i2b (own_i2b p2)), (own_i2b (own_i2b p3)), (own_i2b (own_i2b p4)), (own_i2b (own_i2b p5))]) Y62 hx hZ e62 A62 ⟨by decide, Nat.le_of_ble_eq_true rfl⟩ (hb hby at_29) rfl rfl fun T63 h63 X63 e63 W63 A63 => ?_
  have Y63 := own_drop X63 g58
  refine o_astore (pc' := 32) (l' := #[.val (.int p0), .val (.int p1), .val (.int p2), .val (.int p3), .val (.int p4), .val (.int p5), .val (.ref b58), .unset, .unset, .unset, .unset]) Y63 hx (hb hby at_30) rfl rfl rfl ?_
  refine o_iloadN (pc' := 33) Y63 hx (hb hby at_32) rfl rfl ?_
  refine o_iconst (pc' := 34) (x := (1 : Int32)) Y63 hx (hb hby at_33) (by decide) rfl ?_
  refine o_iand (pc' := 35)  Y63 hx (hb hby at_34) rfl rfl ?_
  refine o_istore (pc' := 37) (l' := #[.val (.int p0), .val (.int p1), .val (.int p2), .val (.int p3), .val (.int p4), .val (.int p5), .val (.ref b58), .val (.int (p0 &&& (1 : Int32))), .unset, .unset, .unset]) Y63 hx (hb hby at_35) rfl rfl ?_
  refine o_aload (pc' := 39) Y63 hx (hb hby at_37) rfl rfl rfl ?_
  refine o_iload (pc' := 41) Y63 hx (hb hby at_39) rfl rfl ?_
  refine o_aload (pc' := 43) Y63 hx (hb hby at_41) rfl rfl rfl ?_
  refine o_iload (pc' := 45) Y63 hx (hb hby at_43) rfl rfl ?_
  refine o_baload (pc' := 46)  Y63 hx hZ e63 A63 hs.1 (hb hby at_45) rfl rfl ?_
  refine o_sipush (pc' := 49) (x := (128 : Int32)) Y63 hx (hb hby at_46) (by decide) rfl ?_
  refine o_ior (pc' := 50)  Y63 hx (hb hby at_49) rfl rfl ?_
  refine o_i2b (pc' := 51)  Y63 hx (hb hby at_50) rfl rfl ?_
  refine o_bastore (pc' := 52) (vs' := (own_set [(own_i2b (own_i2b p1)), (own_i2b (own_i2b p2)), (own_i2b (own_i2b p3)), (own_i2b (own_i2b p4)), (own_i2b (own_i2b p5))] (p0 &&& (1 : Int32)) (own_i2b (own_i2b ((own_get [(own_i2b (own_i2b p1)), (own_i2b (own_i2b p2)), (own_i2b (own_i2b p3)), (own_i2b (own_i2b p4)), (own_i2b (own_i2b p5))] (p0 &&& (1 : Int32))) ||| (128 : Int32)))))) Y63 hx hZ e63 A63 hs.2.1 (hb hby at_51) rfl rfl fun T64 h64 X64 e64 W64 A64 => ?_
  have Y64 := own_drop X64 g58
  refine o_iload (pc' := 54) Y64 hx (hb hby at_52) rfl rfl ?_
  refine o_iconst (pc' := 55) (x := (1 : Int32)) Y64 hx (hb hby at_54) (by decide) rfl ?_
  refine o_iadd (pc' := 56)  Y64 hx (hb hby at_55) rfl rfl ?_
  refine o_iloadN (pc' := 57) Y64 hx (hb hby at_56) rfl rfl ?_
  refine o_iconst (pc' := 58) (x := (1 : Int32)) Y64 hx (hb hby at_57) (by decide) rfl ?_
  refine o_iushr (pc' := 59)  Y64 hx (hb hby at_58) rfl rfl ?_
  refine o_iconst (pc' := 60) (x := (5 : Int32)) Y64 hx (hb hby at_59) (by decide) rfl ?_
  refine o_iload (pc' := 62) Y64 hx (hb hby at_60) rfl rfl ?_
  refine o_isub (pc' := 63)  Y64 hx (hb hby at_62) rfl rfl ?_
  refine o_irem (pc' := 64)  Y64 hx (hb hby at_63) rfl hs.2.2.1 rfl ?_
  refine o_iadd (pc' := 65)  Y64 hx (hb hby at_64) rfl rfl ?_
  refine o_istore (pc' := 67) (l' := #[.val (.int p0), .val (.int p1), .val (.int p2), .val (.int p3), .val (.int p4), .val (.int p5), .val (.ref b58), .val (.int (p0 &&& (1 : Int32))), .val (.int (((p0 &&& (1 : Int32)) + (1 : Int32)) + (own_rem (own_ushr p0 (1 : Int32)) ((5 : Int32) - (p0 &&& (1 : Int32)))))), .unset, .unset]) Y64 hx (hb hby at_65) rfl rfl ?_
  refine o_aload (pc' := 69) Y64 hx (hb hby at_67) rfl rfl rfl ?_
  refine o_iload (pc' := 71) Y64 hx (hb hby at_69) rfl rfl ?_
  refine o_iload (pc' := 73) Y64 hx (hb hby at_71) rfl rfl ?_
  refine o_callP (W := 0) (pc' := 76) (argsL := [(.ref b58), (.int (p0 &&& (1 : Int32))), (.int (((p0 &&& (1 : Int32)) + (1 : Int32)) + (own_rem (own_ushr p0 (1 : Int32)) ((5 : Int32) - (p0 &&& (1 : Int32))))))]) (rest := []) (st' := [(.int (f1_0 (own_set [(own_i2b (own_i2b p1)), (own_i2b (own_i2b p2)), (own_i2b (own_i2b p3)), (own_i2b (own_i2b p4)), (own_i2b (own_i2b p5))] (p0 &&& (1 : Int32)) (own_i2b (own_i2b ((own_get [(own_i2b (own_i2b p1)), (own_i2b (own_i2b p2)), (own_i2b (own_i2b p3)), (own_i2b (own_i2b p4)), (own_i2b (own_i2b p5))] (p0 &&& (1 : Int32))) ||| (128 : Int32))))) (p0 &&& (1 : Int32)) (((p0 &&& (1 : Int32)) + (1 : Int32)) + (own_rem (own_ushr p0 (1 : Int32)) ((5 : Int32) - (p0 &&& (1 : Int32)))))))]) Y64 hx hZ e64 hown (hw _ (List.mem_of_getElem? (i := 1) rfl)) (hw _ (List.mem_of_getElem? (i := 2) rfl)) (hw _ (List.mem_of_getElem? (i := 3) rfl)) (hw _ (List.mem_of_getElem? (i := 4) rfl)) (by decide) (rm1 l Z ag hw [] b58 (own_set [(own_i2b (own_i2b p1)), (own_i2b (own_i2b p2)), (own_i2b (own_i2b p3)), (own_i2b (own_i2b p4)), (own_i2b (own_i2b p5))] (p0 &&& (1 : Int32)) (own_i2b (own_i2b ((own_get [(own_i2b (own_i2b p1)), (own_i2b (own_i2b p2)), (own_i2b (own_i2b p3)), (own_i2b (own_i2b p4)), (own_i2b (own_i2b p5))] (p0 &&& (1 : Int32))) ||| (128 : Int32))))) (p0 &&& (1 : Int32)) (((p0 &&& (1 : Int32)) + (1 : Int32)) + (own_rem (own_ushr p0 (1 : Int32)) ((5 : Int32) - (p0 &&& (1 : Int32))))) h64 A64 hs.2.2.2.1) (by decide) (by decide) (by rw [hml]; rfl) pd_1 rfl rfl rfl rfl (hb hby at_73) rfl rfl rfl (by decide) (by decide) rfl fun T65 X65 e65 => ?_
  refine o_istore (pc' := 78) (l' := #[.val (.int p0), .val (.int p1), .val (.int p2), .val (.int p3), .val (.int p4), .val (.int p5), .val (.ref b58), .val (.int (p0 &&& (1 : Int32))), .val (.int (((p0 &&& (1 : Int32)) + (1 : Int32)) + (own_rem (own_ushr p0 (1 : Int32)) ((5 : Int32) - (p0 &&& (1 : Int32)))))), .val (.int (f1_0 (own_set [(own_i2b (own_i2b p1)), (own_i2b (own_i2b p2)), (own_i2b (own_i2b p3)), (own_i2b (own_i2b p4)), (own_i2b (own_i2b p5))] (p0 &&& (1 : Int32)) (own_i2b (own_i2b ((own_get [(own_i2b (own_i2b p1)), (own_i2b (own_i2b p2)), (own_i2b (own_i2b p3)), (own_i2b (own_i2b p4)), (own_i2b (own_i2b p5))] (p0 &&& (1 : Int32))) ||| (128 : Int32))))) (p0 &&& (1 : Int32)) (((p0 &&& (1 : Int32)) + (1 : Int32)) + (own_rem (own_ushr p0 (1 : Int32)) ((5 : Int32) - (p0 &&& (1 : Int32))))))), .unset]) X65 hx (hb hby at_76) rfl rfl ?_
  refine o_aload (pc' := 80) X65 hx (hb hby at_78) rfl rfl rfl ?_
  refine o_iload (pc' := 82) X65 hx (hb hby at_80) rfl rfl ?_
  refine o_iload (pc' := 84) X65 hx (hb hby at_82) rfl rfl ?_
  refine o_callP (W := 0) (pc' := 87) (argsL := [(.ref b58), (.int (p0 &&& (1 : Int32))), (.int (((p0 &&& (1 : Int32)) + (1 : Int32)) + (own_rem (own_ushr p0 (1 : Int32)) ((5 : Int32) - (p0 &&& (1 : Int32))))))]) (rest := []) (st' := [(.int (f2_0 (own_set [(own_i2b (own_i2b p1)), (own_i2b (own_i2b p2)), (own_i2b (own_i2b p3)), (own_i2b (own_i2b p4)), (own_i2b (own_i2b p5))] (p0 &&& (1 : Int32)) (own_i2b (own_i2b ((own_get [(own_i2b (own_i2b p1)), (own_i2b (own_i2b p2)), (own_i2b (own_i2b p3)), (own_i2b (own_i2b p4)), (own_i2b (own_i2b p5))] (p0 &&& (1 : Int32))) ||| (128 : Int32))))) (p0 &&& (1 : Int32)) (((p0 &&& (1 : Int32)) + (1 : Int32)) + (own_rem (own_ushr p0 (1 : Int32)) ((5 : Int32) - (p0 &&& (1 : Int32)))))))]) X65 hx hZ e65 hown (hw _ (List.mem_of_getElem? (i := 5) rfl)) (hw _ (List.mem_of_getElem? (i := 6) rfl)) (hw _ (List.mem_of_getElem? (i := 7) rfl)) (hw _ (List.mem_of_getElem? (i := 8) rfl)) (by decide) (rm2 l Z ag hw [] b58 (own_set [(own_i2b (own_i2b p1)), (own_i2b (own_i2b p2)), (own_i2b (own_i2b p3)), (own_i2b (own_i2b p4)), (own_i2b (own_i2b p5))] (p0 &&& (1 : Int32)) (own_i2b (own_i2b ((own_get [(own_i2b (own_i2b p1)), (own_i2b (own_i2b p2)), (own_i2b (own_i2b p3)), (own_i2b (own_i2b p4)), (own_i2b (own_i2b p5))] (p0 &&& (1 : Int32))) ||| (128 : Int32))))) (p0 &&& (1 : Int32)) (((p0 &&& (1 : Int32)) + (1 : Int32)) + (own_rem (own_ushr p0 (1 : Int32)) ((5 : Int32) - (p0 &&& (1 : Int32))))) h64 A64 hs.2.2.2.2.1) (by decide) (by decide) (by rw [hml]; rfl) pd_1 rfl rfl rfl rfl (hb hby at_84) rfl rfl rfl (by decide) (by decide) rfl fun T66 X66 e66 => ?_
  refine o_istore (pc' := 89) (l' := #[.val (.int p0), .val (.int p1), .val (.int p2), .val (.int p3), .val (.int p4), .val (.int p5), .val (.ref b58), .val (.int (p0 &&& (1 : Int32))), .val (.int (((p0 &&& (1 : Int32)) + (1 : Int32)) + (own_rem (own_ushr p0 (1 : Int32)) ((5 : Int32) - (p0 &&& (1 : Int32)))))), .val (.int (f1_0 (own_set [(own_i2b (own_i2b p1)), (own_i2b (own_i2b p2)), (own_i2b (own_i2b p3)), (own_i2b (own_i2b p4)), (own_i2b (own_i2b p5))] (p0 &&& (1 : Int32)) (own_i2b (own_i2b ((own_get [(own_i2b (own_i2b p1)), (own_i2b (own_i2b p2)), (own_i2b (own_i2b p3)), (own_i2b (own_i2b p4)), (own_i2b (own_i2b p5))] (p0 &&& (1 : Int32))) ||| (128 : Int32))))) (p0 &&& (1 : Int32)) (((p0 &&& (1 : Int32)) + (1 : Int32)) + (own_rem (own_ushr p0 (1 : Int32)) ((5 : Int32) - (p0 &&& (1 : Int32))))))), .val (.int (f2_0 (own_set [(own_i2b (own_i2b p1)), (own_i2b (own_i2b p2)), (own_i2b (own_i2b p3)), (own_i2b (own_i2b p4)), (own_i2b (own_i2b p5))] (p0 &&& (1 : Int32)) (own_i2b (own_i2b ((own_get [(own_i2b (own_i2b p1)), (own_i2b (own_i2b p2)), (own_i2b (own_i2b p3)), (own_i2b (own_i2b p4)), (own_i2b (own_i2b p5))] (p0 &&& (1 : Int32))) ||| (128 : Int32))))) (p0 &&& (1 : Int32)) (((p0 &&& (1 : Int32)) + (1 : Int32)) + (own_rem (own_ushr p0 (1 : Int32)) ((5 : Int32) - (p0 &&& (1 : Int32)))))))]) X66 hx (hb hby at_87) rfl rfl ?_
  refine o_iload (pc' := 91) X66 hx (hb hby at_89) rfl rfl ?_
  refine o_iload (pc' := 93) X66 hx (hb hby at_91) rfl rfl ?_
  refine o_icN (P := (f2_0 (own_set [(own_i2b (own_i2b p1)), (own_i2b (own_i2b p2)), (own_i2b (own_i2b p3)), (own_i2b (own_i2b p4)), (own_i2b (own_i2b p5))] (p0 &&& (1 : Int32)) (own_i2b (own_i2b ((own_get [(own_i2b (own_i2b p1)), (own_i2b (own_i2b p2)), (own_i2b (own_i2b p3)), (own_i2b (own_i2b p4)), (own_i2b (own_i2b p5))] (p0 &&& (1 : Int32))) ||| (128 : Int32))))) (p0 &&& (1 : Int32)) (((p0 &&& (1 : Int32)) + (1 : Int32)) + (own_rem (own_ushr p0 (1 : Int32)) ((5 : Int32) - (p0 &&& (1 : Int32)))))) = (f1_0 (own_set [(own_i2b (own_i2b p1)), (own_i2b (own_i2b p2)), (own_i2b (own_i2b p3)), (own_i2b (own_i2b p4)), (own_i2b (own_i2b p5))] (p0 &&& (1 : Int32)) (own_i2b (own_i2b ((own_get [(own_i2b (own_i2b p1)), (own_i2b (own_i2b p2)), (own_i2b (own_i2b p3)), (own_i2b (own_i2b p4)), (own_i2b (own_i2b p5))] (p0 &&& (1 : Int32))) ||| (128 : Int32))))) (p0 &&& (1 : Int32)) (((p0 &&& (1 : Int32)) + (1 : Int32)) + (own_rem (own_ushr p0 (1 : Int32)) ((5 : Int32) - (p0 &&& (1 : Int32))))))) (pc1 := 100) (pc2 := 96) X66 hx XT.ii_ne_f XT.ii_ne_t (hb hby at_93) (by decide) (by decide) rfl (fun c67 => ?_) (fun c67 => ?_)
  · rw [if_neg c67] at hK
    refine o_iconst (pc' := 101) (x := (0 : Int32)) X66 hx (hb hby at_100) (by decide) rfl ?_
    exact b0_101 C X66 e66 (One.val rfl) (One.val rfl) (One.val rfl) (One.val rfl) (One.val rfl) (One.val rfl) (One.val rfl) (One.val rfl) (One.val rfl) (One.val rfl) (One.val rfl) hK
  · rw [if_pos c67] at hK
    refine o_iconst (pc' := 97) (x := (1 : Int32)) X66 hx (hb hby at_96) (by decide) rfl ?_
    refine o_goto (pc' := 101) X66 hx (hb hby at_97) (by decide) (by decide) ?_
    exact b0_101_2 C X66 e66 (One.val rfl) (One.val rfl) (One.val rfl) (One.val rfl) (One.val rfl) (One.val rfl) (One.val rfl) (One.val rfl) (One.val rfl) (One.val rfl) (One.val rfl) hK

end Body0
theorem ef_0 (m : MethodId) (p0 : Int32) (p1 : Int32) (p2 : Int32) (p3 : Int32) (p4 : Int32) (p5 : Int32) : entryFrame m #[(.int p0), (.int p1), (.int p2), (.int p3), (.int p4), (.int p5)] maxLocals = mkF m 0 #[.val (.int p0), .val (.int p1), .val (.int p2), .val (.int p3), .val (.int p4), .val (.int p5), .unset, .unset, .unset, .unset, .unset] [] := by first | (simp [entryFrame, mkF, argsToLocals, Value.category, maxLocals]; done) | rfl
set_option maxRecDepth 65536 in
set_option maxHeartbeats 40000000 in
theorem rm0 (l : Launch) (Z : State) (ag : Array Value) (hw : ∀ d ∈ tables_1, d.before ag Z = true) (ws : List Jvm.Cond) (p0 : Int32) (p1 : Int32) (p2 : Int32) (p3 : Int32) (p4 : Int32) (p5 : Int32) (h0 : Heap) (hs : s0_0 p0 p1 p2 p3 p4 p5) :
    MetFree l x (head1 (Jvm.Cond.code x code maxLocals ret :: ws) R0) (fun a U => a = #[(.int p0), (.int p1), (.int p2), (.int p3), (.int p4), (.int p5)] ∧ Z.Warmed39 U.vm ∧ U.heap = h0) (fun _ _ _ _ _ => True) (fun _ U o U' => ∃ v L, o = .returned v ∧ own_KL (some (.int (f0_0 p0 p1 p2 p3 p4 p5))) v U'.heap L ∧ FrameEnd U o U' L cc0 ss0) := by
  refine MetFree.of_bodySF (plainFor_of_name pn_Utf8SequenceLengthPinLaw) hisR ?_
  intro p e s m args below meth c s₁ Bd hml0 hP hK
  obtain ⟨rfl, hZ, hh⟩ := hP
  have C : own_Cx p s m meth c Z ag code maxLocals "com/example/fairtally/fairtally/ledger/Utf8SequenceLengthPinLaw" ret "law" := ⟨Bd.exec, hZ, hw, Bd.bytes, hml0, findClass_of_methodNamed Bd.named, Bd.returns, Bd.notSynchronized, (name_of_methodNamed Bd.named Bd.method).1⟩
  have X0 : Stand p l e R0 s m #[(.int p0), (.int p1), (.int p2), (.int p3), (.int p4), (.int p5)] below meth c s₁ [] 0 0 := Stand.of_body Bd
  have e0 : s₁.heap = h0 := by rw [← hh, Bd.state]; rfl
  rw [ef_0]
  exact b0_0 (K := own_KL (some (.int (f0_0 p0 p1 p2 p3 p4 p5)))) C p0 p1 p2 p3 p4 p5 X0 e0 hs (fun _ => ⟨rfl, rfl⟩)

theorem own_l0 : (0 : Int32).toInt = 0 := rfl
theorem own_l1 : (1 : Int32).toInt = 1 := rfl
theorem own_l2 : (2 : Int32).toInt = 2 := rfl
theorem own_l3 : (3 : Int32).toInt = 3 := rfl
theorem own_l4 : (4 : Int32).toInt = 4 := rfl
theorem own_l63 : (63 : Int32).toInt = 63 := rfl
theorem own_l128 : (128 : Int32).toInt = 128 := rfl
theorem own_l143 : (143 : Int32).toInt = 143 := rfl
theorem own_l144 : (144 : Int32).toInt = 144 := rfl
theorem own_l159 : (159 : Int32).toInt = 159 := rfl
theorem own_l160 : (160 : Int32).toInt = 160 := rfl
theorem own_l191 : (191 : Int32).toInt = 191 := rfl
theorem own_l192 : (192 : Int32).toInt = 192 := rfl
theorem own_l194 : (194 : Int32).toInt = 194 := rfl
theorem own_l223 : (223 : Int32).toInt = 223 := rfl
theorem own_l224 : (224 : Int32).toInt = 224 := rfl
theorem own_l237 : (237 : Int32).toInt = 237 := rfl
theorem own_l239 : (239 : Int32).toInt = 239 := rfl
theorem own_l240 : (240 : Int32).toInt = 240 := rfl
theorem own_l244 : (244 : Int32).toInt = 244 := rfl
theorem own_l2048 : (2048 : Int32).toInt = 2048 := rfl
theorem own_l4095 : (4095 : Int32).toInt = 4095 := rfl
theorem own_l65536 : (65536 : Int32).toInt = 65536 := rfl
theorem own_l55296 : (55296 : Int32).toInt = 55296 := rfl
theorem own_l57343 : (57343 : Int32).toInt = 57343 := rfl
theorem own_l262143 : (262143 : Int32).toInt = 262143 := rfl
theorem own_l1114111 : (1114111 : Int32).toInt = 1114111 := rfl
theorem own_u8 (v0 : List Int32) (x1 x2 x4 x5 x6 x7 : Int32) : f2_151 8 v0 x1 x2 x4 x5 x6 x7 = (if x7 < x4 then (if (x1 + x7) = x2 then (-1 : Int32) else (if x7 = (1 : Int32) then (if ((own_get v0 (x1 + x7)) &&& (255 : Int32)) < x5 then (0 : Int32) else (if x6 < ((own_get v0 (x1 + x7)) &&& (255 : Int32)) then (0 : Int32) else (f2_151 7 v0 x1 x2 x4 x5 x6 (x7 + (1 : Int32))))) else (if ((own_get v0 (x1 + x7)) &&& (255 : Int32)) < (128 : Int32) then (0 : Int32) else (if (191 : Int32) < ((own_get v0 (x1 + x7)) &&& (255 : Int32)) then (0 : Int32) else (f2_151 7 v0 x1 x2 x4 x5 x6 (x7 + (1 : Int32))))))) else x4) := rfl
theorem own_u7 (v0 : List Int32) (x1 x2 x4 x5 x6 x7 : Int32) : f2_151 7 v0 x1 x2 x4 x5 x6 x7 = (if x7 < x4 then (if (x1 + x7) = x2 then (-1 : Int32) else (if x7 = (1 : Int32) then (if ((own_get v0 (x1 + x7)) &&& (255 : Int32)) < x5 then (0 : Int32) else (if x6 < ((own_get v0 (x1 + x7)) &&& (255 : Int32)) then (0 : Int32) else (f2_151 6 v0 x1 x2 x4 x5 x6 (x7 + (1 : Int32))))) else (if ((own_get v0 (x1 + x7)) &&& (255 : Int32)) < (128 : Int32) then (0 : Int32) else (if (191 : Int32) < ((own_get v0 (x1 + x7)) &&& (255 : Int32)) then (0 : Int32) else (f2_151 6 v0 x1 x2 x4 x5 x6 (x7 + (1 : Int32))))))) else x4) := rfl
theorem own_u6 (v0 : List Int32) (x1 x2 x4 x5 x6 x7 : Int32) : f2_151 6 v0 x1 x2 x4 x5 x6 x7 = (if x7 < x4 then (if (x1 + x7) = x2 then (-1 : Int32) else (if x7 = (1 : Int32) then (if ((own_get v0 (x1 + x7)) &&& (255 : Int32)) < x5 then (0 : Int32) else (if x6 < ((own_get v0 (x1 + x7)) &&& (255 : Int32)) then (0 : Int32) else (f2_151 5 v0 x1 x2 x4 x5 x6 (x7 + (1 : Int32))))) else (if ((own_get v0 (x1 + x7)) &&& (255 : Int32)) < (128 : Int32) then (0 : Int32) else (if (191 : Int32) < ((own_get v0 (x1 + x7)) &&& (255 : Int32)) then (0 : Int32) else (f2_151 5 v0 x1 x2 x4 x5 x6 (x7 + (1 : Int32))))))) else x4) := rfl
theorem own_u5 (v0 : List Int32) (x1 x2 x4 x5 x6 x7 : Int32) : f2_151 5 v0 x1 x2 x4 x5 x6 x7 = (if x7 < x4 then (if (x1 + x7) = x2 then (-1 : Int32) else (if x7 = (1 : Int32) then (if ((own_get v0 (x1 + x7)) &&& (255 : Int32)) < x5 then (0 : Int32) else (if x6 < ((own_get v0 (x1 + x7)) &&& (255 : Int32)) then (0 : Int32) else (f2_151 4 v0 x1 x2 x4 x5 x6 (x7 + (1 : Int32))))) else (if ((own_get v0 (x1 + x7)) &&& (255 : Int32)) < (128 : Int32) then (0 : Int32) else (if (191 : Int32) < ((own_get v0 (x1 + x7)) &&& (255 : Int32)) then (0 : Int32) else (f2_151 4 v0 x1 x2 x4 x5 x6 (x7 + (1 : Int32))))))) else x4) := rfl
theorem own_11 : (1 : Int32) + 1 = 2 := rfl
theorem own_12 : (2 : Int32) + 1 = 3 := rfl
theorem own_13 : (3 : Int32) + 1 = 4 := rfl
theorem own_k00 : ((0 : Int32) < 0) = False := by decide
theorem own_k01 : ((0 : Int32) < 1) = True := by decide
theorem own_e01 : ((0 : Int32) = 1) = False := by decide
theorem own_k02 : ((0 : Int32) < 2) = True := by decide
theorem own_e02 : ((0 : Int32) = 2) = False := by decide
theorem own_k03 : ((0 : Int32) < 3) = True := by decide
theorem own_e03 : ((0 : Int32) = 3) = False := by decide
theorem own_k04 : ((0 : Int32) < 4) = True := by decide
theorem own_e04 : ((0 : Int32) = 4) = False := by decide
theorem own_k10 : ((1 : Int32) < 0) = False := by decide
theorem own_e10 : ((1 : Int32) = 0) = False := by decide
theorem own_k11 : ((1 : Int32) < 1) = False := by decide
theorem own_k12 : ((1 : Int32) < 2) = True := by decide
theorem own_e12 : ((1 : Int32) = 2) = False := by decide
theorem own_k13 : ((1 : Int32) < 3) = True := by decide
theorem own_e13 : ((1 : Int32) = 3) = False := by decide
theorem own_k14 : ((1 : Int32) < 4) = True := by decide
theorem own_e14 : ((1 : Int32) = 4) = False := by decide
theorem own_k20 : ((2 : Int32) < 0) = False := by decide
theorem own_e20 : ((2 : Int32) = 0) = False := by decide
theorem own_k21 : ((2 : Int32) < 1) = False := by decide
theorem own_e21 : ((2 : Int32) = 1) = False := by decide
theorem own_k22 : ((2 : Int32) < 2) = False := by decide
theorem own_k23 : ((2 : Int32) < 3) = True := by decide
theorem own_e23 : ((2 : Int32) = 3) = False := by decide
theorem own_k24 : ((2 : Int32) < 4) = True := by decide
theorem own_e24 : ((2 : Int32) = 4) = False := by decide
theorem own_k30 : ((3 : Int32) < 0) = False := by decide
theorem own_e30 : ((3 : Int32) = 0) = False := by decide
theorem own_k31 : ((3 : Int32) < 1) = False := by decide
theorem own_e31 : ((3 : Int32) = 1) = False := by decide
theorem own_k32 : ((3 : Int32) < 2) = False := by decide
theorem own_e32 : ((3 : Int32) = 2) = False := by decide
theorem own_k33 : ((3 : Int32) < 3) = False := by decide
theorem own_k34 : ((3 : Int32) < 4) = True := by decide
theorem own_e34 : ((3 : Int32) = 4) = False := by decide
theorem own_k40 : ((4 : Int32) < 0) = False := by decide
theorem own_e40 : ((4 : Int32) = 0) = False := by decide
theorem own_k41 : ((4 : Int32) < 1) = False := by decide
theorem own_e41 : ((4 : Int32) = 1) = False := by decide
theorem own_k42 : ((4 : Int32) < 2) = False := by decide
theorem own_e42 : ((4 : Int32) = 2) = False := by decide
theorem own_k43 : ((4 : Int32) < 3) = False := by decide
theorem own_e43 : ((4 : Int32) = 3) = False := by decide
theorem own_k44 : ((4 : Int32) < 4) = False := by decide
theorem own_m1 : ∀ n : Fin 256, (Int32.ofNat n.val &&& 224 = 192) ↔ (192 ≤ n.val ∧ n.val ≤ 223) := by decide +kernel
theorem own_m2 : ∀ n : Fin 256, (Int32.ofNat n.val &&& 240 = 224) ↔ (224 ≤ n.val ∧ n.val ≤ 239) := by decide +kernel
theorem own_m3 : ∀ n : Fin 256, (Int32.ofNat n.val &&& 248 = 240) ↔ (240 ≤ n.val ∧ n.val ≤ 247) := by decide +kernel
theorem own_m4 : ∀ n : Fin 256, (Int32.ofNat n.val &&& 192 = 128) ↔ (128 ≤ n.val ∧ n.val ≤ 191) := by decide +kernel
theorem own_of {a : Int32} (a0 : 0 ≤ a.toInt) (a1 : a.toInt ≤ 255) : ∃ n : Fin 256, a = Int32.ofNat n.val ∧ (n.val : Int) = a.toInt := by
  obtain ⟨k, h1, h2, _⟩ := own_nat_of a0
  exact ⟨⟨k, by omega⟩, h1, h2⟩
theorem own_n1 {a : Int32} (a0 : 0 ≤ a.toInt) (a1 : a.toInt ≤ 255) : (a &&& 224 = 192) ↔ (192 ≤ a.toInt ∧ a.toInt ≤ 223) := by
  obtain ⟨n, h, e⟩ := own_of a0 a1
  rw [← e, h, own_m1 n]; omega
theorem own_n2 {a : Int32} (a0 : 0 ≤ a.toInt) (a1 : a.toInt ≤ 255) : (a &&& 240 = 224) ↔ (224 ≤ a.toInt ∧ a.toInt ≤ 239) := by
  obtain ⟨n, h, e⟩ := own_of a0 a1
  rw [← e, h, own_m2 n]; omega
theorem own_n3 {a : Int32} (a0 : 0 ≤ a.toInt) (a1 : a.toInt ≤ 255) : (a &&& 248 = 240) ↔ (240 ≤ a.toInt ∧ a.toInt ≤ 247) := by
  obtain ⟨n, h, e⟩ := own_of a0 a1
  rw [← e, h, own_m3 n]; omega
theorem own_n4 {a : Int32} (a0 : 0 ≤ a.toInt) (a1 : a.toInt ≤ 255) : (a &&& 192 = 128) ↔ (128 ≤ a.toInt ∧ a.toInt ≤ 191) := by
  obtain ⟨n, h, e⟩ := own_of a0 a1
  rw [← e, h, own_m4 n]; omega
theorem own_shlI (x y : Int32) {k : Nat} (hk : ((y &&& 31).toBitVec.smod 32).toNat = k) (h0 : 0 ≤ x.toInt) (h1 : x.toInt * 2 ^ k < 2 ^ 31) : (own_shl x y).toInt = x.toInt * 2 ^ k :=
  Jvm.Kit.i32_shl x (y &&& 31) hk (by have := Int.mul_nonneg h0 (Int.le_of_lt (Int.pow_pos (n := 2) (m := k) (by decide))); omega) h1
theorem own_orI {x y : Int32} (i A : Nat) (hx : x.toInt = ((2 ^ i * A : Nat) : Int)) (hy0 : 0 ≤ y.toInt) (hy : y.toInt < ((2 ^ i : Nat) : Int)) (hs : x.toInt + y.toInt < 2 ^ 31) : (x ||| y).toInt = x.toInt + y.toInt := by
  have ux := x.toInt_lt
  have uy := y.toInt_lt
  have tx := own_toNat x
  have ty := own_toNat y
  have kx : x.toBitVec.toNat = 2 ^ i * A := by
    generalize 2 ^ i * A = w at *
    omega
  have ky : y.toBitVec.toNat < 2 ^ i := by
    generalize 2 ^ i = w at *
    omega
  have e : (x ||| y).toBitVec.toNat = x.toBitVec.toNat + y.toBitVec.toNat := by
    rw [Int32.toBitVec_or, BitVec.toNat_or, kx, Nat.two_pow_add_eq_or_of_lt ky]
  have z : (x ||| y).toInt = (x ||| y).toBitVec.toInt := rfl
  have hx0 : 0 ≤ x.toInt := by rw [hx]; exact Int.natCast_nonneg _
  rw [z, BitVec.toInt_eq_toNat_cond, e]
  rw [if_pos (by omega)]
  omega
theorem own_c1 (v : List Int32) (p q a b c e x : Int32) (g0 : own_get v p &&& 255 = a) (g1 : own_get v (p + 1) &&& 255 = b) (g2 : own_get v (p + 2) &&& 255 = c) (g3 : own_get v (p + 3) &&& 255 = e) (gx : q - p = x) (hq1 : (p + 1 = q) = (x = 1)) (hq2 : (p + 2 = q) = (x = 2)) (hq3 : (p + 3 = q) = (x = 3)) (x1 : 1 ≤ x.toInt) (a0 : 128 ≤ a.toInt) (a1 : a.toInt ≤ 255) (b0 : 0 ≤ b.toInt) (b1 : b.toInt ≤ 255) (c0 : 0 ≤ c.toInt) (c1 : c.toInt ≤ 255) (e0 : 0 ≤ e.toInt) (e1 : e.toInt ≤ 255) (y0 : 128 ≤ a.toInt) (y1 : a.toInt ≤ 191) : f2_0 v p q = f1_0 v p q := by
  have hl194 : (a < 194) = True := eq_true (by rw [own_lt, own_l194]; omega)
  have hl224 : (a < 224) = True := eq_true (by rw [own_lt, own_l224]; omega)
  have hl240 : (a < 240) = True := eq_true (by rw [own_lt, own_l240]; omega)
  have hg223 : (223 < a) = False := eq_false (by rw [own_lt, own_l223]; omega)
  have hg239 : (239 < a) = False := eq_false (by rw [own_lt, own_l239]; omega)
  have hg244 : (244 < a) = False := eq_false (by rw [own_lt, own_l244]; omega)
  have he224 : (a = 224) = False := eq_false (by rw [own_eq, own_l224]; omega)
  have he237 : (a = 237) = False := eq_false (by rw [own_eq, own_l237]; omega)
  have he240 : (a = 240) = False := eq_false (by rw [own_eq, own_l240]; omega)
  have he244 : (a = 244) = False := eq_false (by rw [own_eq, own_l244]; omega)
  have hm1 : (a &&& 224 = 192) = False := eq_false (by rw [own_n1 (by omega) a1]; omega)
  have hm2 : (a &&& 240 = 224) = False := eq_false (by rw [own_n2 (by omega) a1]; omega)
  have hm3 : (a &&& 248 = 240) = False := eq_false (by rw [own_n3 (by omega) a1]; omega)
  simp only [f2_146, f2_148, f2_141, f2_124, f2_92, f2_87, f2_70, f2_38, f2_0, f3_16, f3_16_2, f3_0, f1_198, f1_284, f1_286, f1_241, f1_179, f1_152, f1_126, f1_286_12, f1_241_11, f1_179_10, f1_152_9, f1_126_8, f1_286_17, f1_241_16, f1_179_15, f1_152_14, f1_126_13, f1_0, own_u8, own_u7, own_u6, own_u5, g0, g1, g2, g3, gx, own_11, own_12, own_13, hl194, hl224, hl240, hg223, hg239, hg244, he224, he237, he240, he244, hm1, hm2, hm3, own_k00, own_k01, own_k02, own_k03, own_k04, own_k10, own_k11, own_k12, own_k13, own_k14, own_k20, own_k21, own_k22, own_k23, own_k24, own_k30, own_k31, own_k32, own_k33, own_k34, own_k40, own_k41, own_k42, own_k43, own_k44, own_e01, own_e02, own_e03, own_e04, own_e10, own_e12, own_e13, own_e14, own_e20, own_e21, own_e23, own_e24, own_e30, own_e31, own_e32, own_e34, own_e40, own_e41, own_e42, own_e43, ↓reduceIte]
theorem own_c2 (v : List Int32) (p q a b c e x : Int32) (g0 : own_get v p &&& 255 = a) (g1 : own_get v (p + 1) &&& 255 = b) (g2 : own_get v (p + 2) &&& 255 = c) (g3 : own_get v (p + 3) &&& 255 = e) (gx : q - p = x) (hq1 : (p + 1 = q) = (x = 1)) (hq2 : (p + 2 = q) = (x = 2)) (hq3 : (p + 3 = q) = (x = 3)) (x1 : 1 ≤ x.toInt) (a0 : 128 ≤ a.toInt) (a1 : a.toInt ≤ 255) (b0 : 0 ≤ b.toInt) (b1 : b.toInt ≤ 255) (c0 : 0 ≤ c.toInt) (c1 : c.toInt ≤ 255) (e0 : 0 ≤ e.toInt) (e1 : e.toInt ≤ 255) (y0 : 192 ≤ a.toInt) (y1 : a.toInt ≤ 193) : f2_0 v p q = f1_0 v p q := by
  have hl194 : (a < 194) = True := eq_true (by rw [own_lt, own_l194]; omega)
  have hl224 : (a < 224) = True := eq_true (by rw [own_lt, own_l224]; omega)
  have hl240 : (a < 240) = True := eq_true (by rw [own_lt, own_l240]; omega)
  have hg223 : (223 < a) = False := eq_false (by rw [own_lt, own_l223]; omega)
  have hg239 : (239 < a) = False := eq_false (by rw [own_lt, own_l239]; omega)
  have hg244 : (244 < a) = False := eq_false (by rw [own_lt, own_l244]; omega)
  have he224 : (a = 224) = False := eq_false (by rw [own_eq, own_l224]; omega)
  have he237 : (a = 237) = False := eq_false (by rw [own_eq, own_l237]; omega)
  have he240 : (a = 240) = False := eq_false (by rw [own_eq, own_l240]; omega)
  have he244 : (a = 244) = False := eq_false (by rw [own_eq, own_l244]; omega)
  have hm1 : (a &&& 224 = 192) = True := eq_true (by rw [own_n1 (by omega) a1]; omega)
  have hm2 : (a &&& 240 = 224) = False := eq_false (by rw [own_n2 (by omega) a1]; omega)
  have hm3 : (a &&& 248 = 240) = False := eq_false (by rw [own_n3 (by omega) a1]; omega)
  have em := Jvm.Kit.i32_mask a 31 (k := 5) (by decide) (by decide)
  have e9 : (own_shl (a &&& 31) 6).toInt = (a &&& 31).toInt * 2 ^ 6 := own_shlI _ _ (k := 6) (by decide) (by omega) (by omega)
  have ea : (own_shl (a &&& 31) 6 + 63).toInt = (own_shl (a &&& 31) 6).toInt + 63 := Jvm.Kit.i32_add (by rw [own_l63]; omega) (by rw [own_l63]; omega)
  have hk1 : (own_shl (a &&& 31) 6 + 63 < 128) = True := eq_true (by rw [own_lt, own_l128]; omega)
  have hk2 : (1114111 < own_shl (a &&& 31) 6) = False := eq_false (by rw [own_lt, own_l1114111]; omega)
  simp only [f2_146, f2_148, f2_141, f2_124, f2_92, f2_87, f2_70, f2_38, f2_0, f3_16, f3_16_2, f3_0, f1_198, f1_284, f1_286, f1_241, f1_179, f1_152, f1_126, f1_286_12, f1_241_11, f1_179_10, f1_152_9, f1_126_8, f1_286_17, f1_241_16, f1_179_15, f1_152_14, f1_126_13, f1_0, own_u8, own_u7, own_u6, own_u5, g0, g1, g2, g3, gx, own_11, own_12, own_13, hl194, hl224, hl240, hg223, hg239, hg244, he224, he237, he240, he244, hm1, hm2, hm3, hk1, hk2, own_k00, own_k01, own_k02, own_k03, own_k04, own_k10, own_k11, own_k12, own_k13, own_k14, own_k20, own_k21, own_k22, own_k23, own_k24, own_k30, own_k31, own_k32, own_k33, own_k34, own_k40, own_k41, own_k42, own_k43, own_k44, own_e01, own_e02, own_e03, own_e04, own_e10, own_e12, own_e13, own_e14, own_e20, own_e21, own_e23, own_e24, own_e30, own_e31, own_e32, own_e34, own_e40, own_e41, own_e42, own_e43, ↓reduceIte]
theorem own_c3 (v : List Int32) (p q a b c e x : Int32) (g0 : own_get v p &&& 255 = a) (g1 : own_get v (p + 1) &&& 255 = b) (g2 : own_get v (p + 2) &&& 255 = c) (g3 : own_get v (p + 3) &&& 255 = e) (gx : q - p = x) (hq1 : (p + 1 = q) = (x = 1)) (hq2 : (p + 2 = q) = (x = 2)) (hq3 : (p + 3 = q) = (x = 3)) (x1 : 1 ≤ x.toInt) (a0 : 128 ≤ a.toInt) (a1 : a.toInt ≤ 255) (b0 : 0 ≤ b.toInt) (b1 : b.toInt ≤ 255) (c0 : 0 ≤ c.toInt) (c1 : c.toInt ≤ 255) (e0 : 0 ≤ e.toInt) (e1 : e.toInt ≤ 255) (y0 : 194 ≤ a.toInt) (y1 : a.toInt ≤ 223) : f2_0 v p q = f1_0 v p q := by
  have hl194 : (a < 194) = False := eq_false (by rw [own_lt, own_l194]; omega)
  have hl224 : (a < 224) = True := eq_true (by rw [own_lt, own_l224]; omega)
  have hl240 : (a < 240) = True := eq_true (by rw [own_lt, own_l240]; omega)
  have hg223 : (223 < a) = False := eq_false (by rw [own_lt, own_l223]; omega)
  have hg239 : (239 < a) = False := eq_false (by rw [own_lt, own_l239]; omega)
  have hg244 : (244 < a) = False := eq_false (by rw [own_lt, own_l244]; omega)
  have he224 : (a = 224) = False := eq_false (by rw [own_eq, own_l224]; omega)
  have he237 : (a = 237) = False := eq_false (by rw [own_eq, own_l237]; omega)
  have he240 : (a = 240) = False := eq_false (by rw [own_eq, own_l240]; omega)
  have he244 : (a = 244) = False := eq_false (by rw [own_eq, own_l244]; omega)
  have hm1 : (a &&& 224 = 192) = True := eq_true (by rw [own_n1 (by omega) a1]; omega)
  have hm2 : (a &&& 240 = 224) = False := eq_false (by rw [own_n2 (by omega) a1]; omega)
  have hm3 : (a &&& 248 = 240) = False := eq_false (by rw [own_n3 (by omega) a1]; omega)
  have em := Jvm.Kit.i32_mask a 31 (k := 5) (by decide) (by decide)
  have e9 : (own_shl (a &&& 31) 6).toInt = (a &&& 31).toInt * 2 ^ 6 := own_shlI _ _ (k := 6) (by decide) (by omega) (by omega)
  have ea : (own_shl (a &&& 31) 6 + 63).toInt = (own_shl (a &&& 31) 6).toInt + 63 := Jvm.Kit.i32_add (by rw [own_l63]; omega) (by rw [own_l63]; omega)
  have hk1 : (own_shl (a &&& 31) 6 + 63 < 128) = False := eq_false (by rw [own_lt, own_l128]; omega)
  have hk2 : (1114111 < own_shl (a &&& 31) 6) = False := eq_false (by rw [own_lt, own_l1114111]; omega)
  have eb := Jvm.Kit.i32_mask b 63 (k := 6) (by decide) (by decide)
  have es : (own_shl (b &&& 63) 0).toInt = (b &&& 63).toInt * 2 ^ 0 := own_shlI _ _ (k := 0) (by decide) (by omega) (by omega)
  have ec : (own_shl (a &&& 31) 6 ||| own_shl (b &&& 63) 0).toInt = (own_shl (a &&& 31) 6).toInt + (own_shl (b &&& 63) 0).toInt := own_orI 6 (a &&& 31).toInt.toNat (by omega) (by omega) (by omega) (by omega)
  by_cases z1 : x = 1
  · skip
    have xI : x.toInt = 1 := by rw [z1]; rfl
    have hx2 : (x < 2) = True := eq_true (by rw [own_lt, own_l2]; omega)
    have hx3 : (x < 3) = True := eq_true (by rw [own_lt, own_l3]; omega)
    have hx4 : (x < 4) = True := eq_true (by rw [own_lt, own_l4]; omega)
    have hr1 : (p + 1 = q) = True := by rw [hq1]; exact eq_true (by rw [own_eq, own_l1]; omega)
    have hr2 : (p + 2 = q) = False := by rw [hq2]; exact eq_false (by rw [own_eq, own_l2]; omega)
    have hr3 : (p + 3 = q) = False := by rw [hq3]; exact eq_false (by rw [own_eq, own_l3]; omega)
    simp only [f2_146, f2_148, f2_141, f2_124, f2_92, f2_87, f2_70, f2_38, f2_0, f3_16, f3_16_2, f3_0, f1_198, f1_284, f1_286, f1_241, f1_179, f1_152, f1_126, f1_286_12, f1_241_11, f1_179_10, f1_152_9, f1_126_8, f1_286_17, f1_241_16, f1_179_15, f1_152_14, f1_126_13, f1_0, own_u8, own_u7, own_u6, own_u5, g0, g1, g2, g3, gx, own_11, own_12, own_13, hl194, hl224, hl240, hg223, hg239, hg244, he224, he237, he240, he244, hm1, hm2, hm3, hk1, hk2, hx2, hx3, hx4, hr1, hr2, hr3, own_k00, own_k01, own_k02, own_k03, own_k04, own_k10, own_k11, own_k12, own_k13, own_k14, own_k20, own_k21, own_k22, own_k23, own_k24, own_k30, own_k31, own_k32, own_k33, own_k34, own_k40, own_k41, own_k42, own_k43, own_k44, own_e01, own_e02, own_e03, own_e04, own_e10, own_e12, own_e13, own_e14, own_e20, own_e21, own_e23, own_e24, own_e30, own_e31, own_e32, own_e34, own_e40, own_e41, own_e42, own_e43, ↓reduceIte]
  by_cases z2 : x = 2
  · skip
    have xI : x.toInt = 2 := by rw [z2]; rfl
    have hx2 : (x < 2) = False := eq_false (by rw [own_lt, own_l2]; omega)
    have hx3 : (x < 3) = True := eq_true (by rw [own_lt, own_l3]; omega)
    have hx4 : (x < 4) = True := eq_true (by rw [own_lt, own_l4]; omega)
    have hr1 : (p + 1 = q) = False := by rw [hq1]; exact eq_false (by rw [own_eq, own_l1]; omega)
    have hr2 : (p + 2 = q) = True := by rw [hq2]; exact eq_true (by rw [own_eq, own_l2]; omega)
    have hr3 : (p + 3 = q) = False := by rw [hq3]; exact eq_false (by rw [own_eq, own_l3]; omega)
    have hnb := own_n4 b0 b1
    by_cases zb0 : b.toInt < 128
    · have hbb : (b &&& 192 = 128) = False := eq_false (by rw [hnb]; omega)
      have hab : (b < 128) = True := eq_true (by rw [own_lt, own_l128]; omega)
      have hcb : (191 < b) = False := eq_false (by rw [own_lt, own_l191]; omega)
      simp only [f2_146, f2_148, f2_141, f2_124, f2_92, f2_87, f2_70, f2_38, f2_0, f3_16, f3_16_2, f3_0, f1_198, f1_284, f1_286, f1_241, f1_179, f1_152, f1_126, f1_286_12, f1_241_11, f1_179_10, f1_152_9, f1_126_8, f1_286_17, f1_241_16, f1_179_15, f1_152_14, f1_126_13, f1_0, own_u8, own_u7, own_u6, own_u5, g0, g1, g2, g3, gx, own_11, own_12, own_13, hl194, hl224, hl240, hg223, hg239, hg244, he224, he237, he240, he244, hm1, hm2, hm3, hk1, hk2, hx2, hx3, hx4, hr1, hr2, hr3, hbb, hab, hcb, own_k00, own_k01, own_k02, own_k03, own_k04, own_k10, own_k11, own_k12, own_k13, own_k14, own_k20, own_k21, own_k22, own_k23, own_k24, own_k30, own_k31, own_k32, own_k33, own_k34, own_k40, own_k41, own_k42, own_k43, own_k44, own_e01, own_e02, own_e03, own_e04, own_e10, own_e12, own_e13, own_e14, own_e20, own_e21, own_e23, own_e24, own_e30, own_e31, own_e32, own_e34, own_e40, own_e41, own_e42, own_e43, ↓reduceIte]
    by_cases zb1 : 191 < b.toInt
    · have hbb : (b &&& 192 = 128) = False := eq_false (by rw [hnb]; omega)
      have hab : (b < 128) = False := eq_false (by rw [own_lt, own_l128]; omega)
      have hcb : (191 < b) = True := eq_true (by rw [own_lt, own_l191]; omega)
      simp only [f2_146, f2_148, f2_141, f2_124, f2_92, f2_87, f2_70, f2_38, f2_0, f3_16, f3_16_2, f3_0, f1_198, f1_284, f1_286, f1_241, f1_179, f1_152, f1_126, f1_286_12, f1_241_11, f1_179_10, f1_152_9, f1_126_8, f1_286_17, f1_241_16, f1_179_15, f1_152_14, f1_126_13, f1_0, own_u8, own_u7, own_u6, own_u5, g0, g1, g2, g3, gx, own_11, own_12, own_13, hl194, hl224, hl240, hg223, hg239, hg244, he224, he237, he240, he244, hm1, hm2, hm3, hk1, hk2, hx2, hx3, hx4, hr1, hr2, hr3, hbb, hab, hcb, own_k00, own_k01, own_k02, own_k03, own_k04, own_k10, own_k11, own_k12, own_k13, own_k14, own_k20, own_k21, own_k22, own_k23, own_k24, own_k30, own_k31, own_k32, own_k33, own_k34, own_k40, own_k41, own_k42, own_k43, own_k44, own_e01, own_e02, own_e03, own_e04, own_e10, own_e12, own_e13, own_e14, own_e20, own_e21, own_e23, own_e24, own_e30, own_e31, own_e32, own_e34, own_e40, own_e41, own_e42, own_e43, ↓reduceIte]
    have hbb : (b &&& 192 = 128) = True := eq_true (by rw [hnb]; omega)
    have hab : (b < 128) = False := eq_false (by rw [own_lt, own_l128]; omega)
    have hcb : (191 < b) = False := eq_false (by rw [own_lt, own_l191]; omega)
    have hp1 : (own_shl (a &&& 31) 6 ||| own_shl (b &&& 63) 0 < 128) = False := eq_false (by rw [own_lt, own_l128]; omega)
    have hp3 : (own_shl (a &&& 31) 6 ||| own_shl (b &&& 63) 0 < 55296) = True := eq_true (by rw [own_lt, own_l55296]; omega)
    have hp2 : (1114111 < own_shl (a &&& 31) 6 ||| own_shl (b &&& 63) 0) = False := eq_false (by rw [own_lt, own_l1114111]; omega)
    have hp4 : (57343 < own_shl (a &&& 31) 6 ||| own_shl (b &&& 63) 0) = False := eq_false (by rw [own_lt, own_l57343]; omega)
    simp only [f2_146, f2_148, f2_141, f2_124, f2_92, f2_87, f2_70, f2_38, f2_0, f3_16, f3_16_2, f3_0, f1_198, f1_284, f1_286, f1_241, f1_179, f1_152, f1_126, f1_286_12, f1_241_11, f1_179_10, f1_152_9, f1_126_8, f1_286_17, f1_241_16, f1_179_15, f1_152_14, f1_126_13, f1_0, own_u8, own_u7, own_u6, own_u5, g0, g1, g2, g3, gx, own_11, own_12, own_13, hl194, hl224, hl240, hg223, hg239, hg244, he224, he237, he240, he244, hm1, hm2, hm3, hk1, hk2, hx2, hx3, hx4, hr1, hr2, hr3, hbb, hab, hcb, hp1, hp3, hp2, hp4, own_k00, own_k01, own_k02, own_k03, own_k04, own_k10, own_k11, own_k12, own_k13, own_k14, own_k20, own_k21, own_k22, own_k23, own_k24, own_k30, own_k31, own_k32, own_k33, own_k34, own_k40, own_k41, own_k42, own_k43, own_k44, own_e01, own_e02, own_e03, own_e04, own_e10, own_e12, own_e13, own_e14, own_e20, own_e21, own_e23, own_e24, own_e30, own_e31, own_e32, own_e34, own_e40, own_e41, own_e42, own_e43, ↓reduceIte]
  by_cases z3 : x = 3
  · skip
    have xI : x.toInt = 3 := by rw [z3]; rfl
    have hx2 : (x < 2) = False := eq_false (by rw [own_lt, own_l2]; omega)
    have hx3 : (x < 3) = False := eq_false (by rw [own_lt, own_l3]; omega)
    have hx4 : (x < 4) = True := eq_true (by rw [own_lt, own_l4]; omega)
    have hr1 : (p + 1 = q) = False := by rw [hq1]; exact eq_false (by rw [own_eq, own_l1]; omega)
    have hr2 : (p + 2 = q) = False := by rw [hq2]; exact eq_false (by rw [own_eq, own_l2]; omega)
    have hr3 : (p + 3 = q) = True := by rw [hq3]; exact eq_true (by rw [own_eq, own_l3]; omega)
    have hnb := own_n4 b0 b1
    by_cases zb0 : b.toInt < 128
    · have hbb : (b &&& 192 = 128) = False := eq_false (by rw [hnb]; omega)
      have hab : (b < 128) = True := eq_true (by rw [own_lt, own_l128]; omega)
      have hcb : (191 < b) = False := eq_false (by rw [own_lt, own_l191]; omega)
      simp only [f2_146, f2_148, f2_141, f2_124, f2_92, f2_87, f2_70, f2_38, f2_0, f3_16, f3_16_2, f3_0, f1_198, f1_284, f1_286, f1_241, f1_179, f1_152, f1_126, f1_286_12, f1_241_11, f1_179_10, f1_152_9, f1_126_8, f1_286_17, f1_241_16, f1_179_15, f1_152_14, f1_126_13, f1_0, own_u8, own_u7, own_u6, own_u5, g0, g1, g2, g3, gx, own_11, own_12, own_13, hl194, hl224, hl240, hg223, hg239, hg244, he224, he237, he240, he244, hm1, hm2, hm3, hk1, hk2, hx2, hx3, hx4, hr1, hr2, hr3, hbb, hab, hcb, own_k00, own_k01, own_k02, own_k03, own_k04, own_k10, own_k11, own_k12, own_k13, own_k14, own_k20, own_k21, own_k22, own_k23, own_k24, own_k30, own_k31, own_k32, own_k33, own_k34, own_k40, own_k41, own_k42, own_k43, own_k44, own_e01, own_e02, own_e03, own_e04, own_e10, own_e12, own_e13, own_e14, own_e20, own_e21, own_e23, own_e24, own_e30, own_e31, own_e32, own_e34, own_e40, own_e41, own_e42, own_e43, ↓reduceIte]
    by_cases zb1 : 191 < b.toInt
    · have hbb : (b &&& 192 = 128) = False := eq_false (by rw [hnb]; omega)
      have hab : (b < 128) = False := eq_false (by rw [own_lt, own_l128]; omega)
      have hcb : (191 < b) = True := eq_true (by rw [own_lt, own_l191]; omega)
      simp only [f2_146, f2_148, f2_141, f2_124, f2_92, f2_87, f2_70, f2_38, f2_0, f3_16, f3_16_2, f3_0, f1_198, f1_284, f1_286, f1_241, f1_179, f1_152, f1_126, f1_286_12, f1_241_11, f1_179_10, f1_152_9, f1_126_8, f1_286_17, f1_241_16, f1_179_15, f1_152_14, f1_126_13, f1_0, own_u8, own_u7, own_u6, own_u5, g0, g1, g2, g3, gx, own_11, own_12, own_13, hl194, hl224, hl240, hg223, hg239, hg244, he224, he237, he240, he244, hm1, hm2, hm3, hk1, hk2, hx2, hx3, hx4, hr1, hr2, hr3, hbb, hab, hcb, own_k00, own_k01, own_k02, own_k03, own_k04, own_k10, own_k11, own_k12, own_k13, own_k14, own_k20, own_k21, own_k22, own_k23, own_k24, own_k30, own_k31, own_k32, own_k33, own_k34, own_k40, own_k41, own_k42, own_k43, own_k44, own_e01, own_e02, own_e03, own_e04, own_e10, own_e12, own_e13, own_e14, own_e20, own_e21, own_e23, own_e24, own_e30, own_e31, own_e32, own_e34, own_e40, own_e41, own_e42, own_e43, ↓reduceIte]
    have hbb : (b &&& 192 = 128) = True := eq_true (by rw [hnb]; omega)
    have hab : (b < 128) = False := eq_false (by rw [own_lt, own_l128]; omega)
    have hcb : (191 < b) = False := eq_false (by rw [own_lt, own_l191]; omega)
    have hp1 : (own_shl (a &&& 31) 6 ||| own_shl (b &&& 63) 0 < 128) = False := eq_false (by rw [own_lt, own_l128]; omega)
    have hp3 : (own_shl (a &&& 31) 6 ||| own_shl (b &&& 63) 0 < 55296) = True := eq_true (by rw [own_lt, own_l55296]; omega)
    have hp2 : (1114111 < own_shl (a &&& 31) 6 ||| own_shl (b &&& 63) 0) = False := eq_false (by rw [own_lt, own_l1114111]; omega)
    have hp4 : (57343 < own_shl (a &&& 31) 6 ||| own_shl (b &&& 63) 0) = False := eq_false (by rw [own_lt, own_l57343]; omega)
    simp only [f2_146, f2_148, f2_141, f2_124, f2_92, f2_87, f2_70, f2_38, f2_0, f3_16, f3_16_2, f3_0, f1_198, f1_284, f1_286, f1_241, f1_179, f1_152, f1_126, f1_286_12, f1_241_11, f1_179_10, f1_152_9, f1_126_8, f1_286_17, f1_241_16, f1_179_15, f1_152_14, f1_126_13, f1_0, own_u8, own_u7, own_u6, own_u5, g0, g1, g2, g3, gx, own_11, own_12, own_13, hl194, hl224, hl240, hg223, hg239, hg244, he224, he237, he240, he244, hm1, hm2, hm3, hk1, hk2, hx2, hx3, hx4, hr1, hr2, hr3, hbb, hab, hcb, hp1, hp3, hp2, hp4, own_k00, own_k01, own_k02, own_k03, own_k04, own_k10, own_k11, own_k12, own_k13, own_k14, own_k20, own_k21, own_k22, own_k23, own_k24, own_k30, own_k31, own_k32, own_k33, own_k34, own_k40, own_k41, own_k42, own_k43, own_k44, own_e01, own_e02, own_e03, own_e04, own_e10, own_e12, own_e13, own_e14, own_e20, own_e21, own_e23, own_e24, own_e30, own_e31, own_e32, own_e34, own_e40, own_e41, own_e42, own_e43, ↓reduceIte]
  have xI : 4 ≤ x.toInt := by rw [own_eq, own_l1] at z1; rw [own_eq, own_l2] at z2; rw [own_eq, own_l3] at z3; omega
  have hx2 : (x < 2) = False := eq_false (by rw [own_lt, own_l2]; omega)
  have hx3 : (x < 3) = False := eq_false (by rw [own_lt, own_l3]; omega)
  have hx4 : (x < 4) = False := eq_false (by rw [own_lt, own_l4]; omega)
  have hr1 : (p + 1 = q) = False := by rw [hq1]; exact eq_false (by rw [own_eq, own_l1]; omega)
  have hr2 : (p + 2 = q) = False := by rw [hq2]; exact eq_false (by rw [own_eq, own_l2]; omega)
  have hr3 : (p + 3 = q) = False := by rw [hq3]; exact eq_false (by rw [own_eq, own_l3]; omega)
  have hnb := own_n4 b0 b1
  by_cases zb0 : b.toInt < 128
  · have hbb : (b &&& 192 = 128) = False := eq_false (by rw [hnb]; omega)
    have hab : (b < 128) = True := eq_true (by rw [own_lt, own_l128]; omega)
    have hcb : (191 < b) = False := eq_false (by rw [own_lt, own_l191]; omega)
    simp only [f2_146, f2_148, f2_141, f2_124, f2_92, f2_87, f2_70, f2_38, f2_0, f3_16, f3_16_2, f3_0, f1_198, f1_284, f1_286, f1_241, f1_179, f1_152, f1_126, f1_286_12, f1_241_11, f1_179_10, f1_152_9, f1_126_8, f1_286_17, f1_241_16, f1_179_15, f1_152_14, f1_126_13, f1_0, own_u8, own_u7, own_u6, own_u5, g0, g1, g2, g3, gx, own_11, own_12, own_13, hl194, hl224, hl240, hg223, hg239, hg244, he224, he237, he240, he244, hm1, hm2, hm3, hk1, hk2, hx2, hx3, hx4, hr1, hr2, hr3, hbb, hab, hcb, own_k00, own_k01, own_k02, own_k03, own_k04, own_k10, own_k11, own_k12, own_k13, own_k14, own_k20, own_k21, own_k22, own_k23, own_k24, own_k30, own_k31, own_k32, own_k33, own_k34, own_k40, own_k41, own_k42, own_k43, own_k44, own_e01, own_e02, own_e03, own_e04, own_e10, own_e12, own_e13, own_e14, own_e20, own_e21, own_e23, own_e24, own_e30, own_e31, own_e32, own_e34, own_e40, own_e41, own_e42, own_e43, ↓reduceIte]
  by_cases zb1 : 191 < b.toInt
  · have hbb : (b &&& 192 = 128) = False := eq_false (by rw [hnb]; omega)
    have hab : (b < 128) = False := eq_false (by rw [own_lt, own_l128]; omega)
    have hcb : (191 < b) = True := eq_true (by rw [own_lt, own_l191]; omega)
    simp only [f2_146, f2_148, f2_141, f2_124, f2_92, f2_87, f2_70, f2_38, f2_0, f3_16, f3_16_2, f3_0, f1_198, f1_284, f1_286, f1_241, f1_179, f1_152, f1_126, f1_286_12, f1_241_11, f1_179_10, f1_152_9, f1_126_8, f1_286_17, f1_241_16, f1_179_15, f1_152_14, f1_126_13, f1_0, own_u8, own_u7, own_u6, own_u5, g0, g1, g2, g3, gx, own_11, own_12, own_13, hl194, hl224, hl240, hg223, hg239, hg244, he224, he237, he240, he244, hm1, hm2, hm3, hk1, hk2, hx2, hx3, hx4, hr1, hr2, hr3, hbb, hab, hcb, own_k00, own_k01, own_k02, own_k03, own_k04, own_k10, own_k11, own_k12, own_k13, own_k14, own_k20, own_k21, own_k22, own_k23, own_k24, own_k30, own_k31, own_k32, own_k33, own_k34, own_k40, own_k41, own_k42, own_k43, own_k44, own_e01, own_e02, own_e03, own_e04, own_e10, own_e12, own_e13, own_e14, own_e20, own_e21, own_e23, own_e24, own_e30, own_e31, own_e32, own_e34, own_e40, own_e41, own_e42, own_e43, ↓reduceIte]
  have hbb : (b &&& 192 = 128) = True := eq_true (by rw [hnb]; omega)
  have hab : (b < 128) = False := eq_false (by rw [own_lt, own_l128]; omega)
  have hcb : (191 < b) = False := eq_false (by rw [own_lt, own_l191]; omega)
  have hp1 : (own_shl (a &&& 31) 6 ||| own_shl (b &&& 63) 0 < 128) = False := eq_false (by rw [own_lt, own_l128]; omega)
  have hp3 : (own_shl (a &&& 31) 6 ||| own_shl (b &&& 63) 0 < 55296) = True := eq_true (by rw [own_lt, own_l55296]; omega)
  have hp2 : (1114111 < own_shl (a &&& 31) 6 ||| own_shl (b &&& 63) 0) = False := eq_false (by rw [own_lt, own_l1114111]; omega)
  have hp4 : (57343 < own_shl (a &&& 31) 6 ||| own_shl (b &&& 63) 0) = False := eq_false (by rw [own_lt, own_l57343]; omega)
  simp only [f2_146, f2_148, f2_141, f2_124, f2_92, f2_87, f2_70, f2_38, f2_0, f3_16, f3_16_2, f3_0, f1_198, f1_284, f1_286, f1_241, f1_179, f1_152, f1_126, f1_286_12, f1_241_11, f1_179_10, f1_152_9, f1_126_8, f1_286_17, f1_241_16, f1_179_15, f1_152_14, f1_126_13, f1_0, own_u8, own_u7, own_u6, own_u5, g0, g1, g2, g3, gx, own_11, own_12, own_13, hl194, hl224, hl240, hg223, hg239, hg244, he224, he237, he240, he244, hm1, hm2, hm3, hk1, hk2, hx2, hx3, hx4, hr1, hr2, hr3, hbb, hab, hcb, hp1, hp3, hp2, hp4, own_k00, own_k01, own_k02, own_k03, own_k04, own_k10, own_k11, own_k12, own_k13, own_k14, own_k20, own_k21, own_k22, own_k23, own_k24, own_k30, own_k31, own_k32, own_k33, own_k34, own_k40, own_k41, own_k42, own_k43, own_k44, own_e01, own_e02, own_e03, own_e04, own_e10, own_e12, own_e13, own_e14, own_e20, own_e21, own_e23, own_e24, own_e30, own_e31, own_e32, own_e34, own_e40, own_e41, own_e42, own_e43, ↓reduceIte]
theorem own_c4 (v : List Int32) (p q a b c e x : Int32) (g0 : own_get v p &&& 255 = a) (g1 : own_get v (p + 1) &&& 255 = b) (g2 : own_get v (p + 2) &&& 255 = c) (g3 : own_get v (p + 3) &&& 255 = e) (gx : q - p = x) (hq1 : (p + 1 = q) = (x = 1)) (hq2 : (p + 2 = q) = (x = 2)) (hq3 : (p + 3 = q) = (x = 3)) (x1 : 1 ≤ x.toInt) (a0 : 128 ≤ a.toInt) (a1 : a.toInt ≤ 255) (b0 : 0 ≤ b.toInt) (b1 : b.toInt ≤ 255) (c0 : 0 ≤ c.toInt) (c1 : c.toInt ≤ 255) (e0 : 0 ≤ e.toInt) (e1 : e.toInt ≤ 255) (y0 : 224 ≤ a.toInt) (y1 : a.toInt ≤ 224) : f2_0 v p q = f1_0 v p q := by
  have hl194 : (a < 194) = False := eq_false (by rw [own_lt, own_l194]; omega)
  have hl224 : (a < 224) = False := eq_false (by rw [own_lt, own_l224]; omega)
  have hl240 : (a < 240) = True := eq_true (by rw [own_lt, own_l240]; omega)
  have hg223 : (223 < a) = True := eq_true (by rw [own_lt, own_l223]; omega)
  have hg239 : (239 < a) = False := eq_false (by rw [own_lt, own_l239]; omega)
  have hg244 : (244 < a) = False := eq_false (by rw [own_lt, own_l244]; omega)
  have he224 : (a = 224) = True := eq_true (by rw [own_eq, own_l224]; omega)
  have he237 : (a = 237) = False := eq_false (by rw [own_eq, own_l237]; omega)
  have he240 : (a = 240) = False := eq_false (by rw [own_eq, own_l240]; omega)
  have he244 : (a = 244) = False := eq_false (by rw [own_eq, own_l244]; omega)
  have hm1 : (a &&& 224 = 192) = False := eq_false (by rw [own_n1 (by omega) a1]; omega)
  have hm2 : (a &&& 240 = 224) = True := eq_true (by rw [own_n2 (by omega) a1]; omega)
  have hm3 : (a &&& 248 = 240) = False := eq_false (by rw [own_n3 (by omega) a1]; omega)
  have em := Jvm.Kit.i32_mask a 15 (k := 4) (by decide) (by decide)
  have e9 : (own_shl (a &&& 15) 12).toInt = (a &&& 15).toInt * 2 ^ 12 := own_shlI _ _ (k := 12) (by decide) (by omega) (by omega)
  have ea : (own_shl (a &&& 15) 12 + 4095).toInt = (own_shl (a &&& 15) 12).toInt + 4095 := Jvm.Kit.i32_add (by rw [own_l4095]; omega) (by rw [own_l4095]; omega)
  have hk1 : (own_shl (a &&& 15) 12 + 4095 < 2048) = False := eq_false (by rw [own_lt, own_l2048]; omega)
  have hk2 : (1114111 < own_shl (a &&& 15) 12) = False := eq_false (by rw [own_lt, own_l1114111]; omega)
  have eb := Jvm.Kit.i32_mask b 63 (k := 6) (by decide) (by decide)
  have es : (own_shl (b &&& 63) 6).toInt = (b &&& 63).toInt * 2 ^ 6 := own_shlI _ _ (k := 6) (by decide) (by omega) (by omega)
  have ec : (own_shl (a &&& 15) 12 ||| own_shl (b &&& 63) 6).toInt = (own_shl (a &&& 15) 12).toInt + (own_shl (b &&& 63) 6).toInt := own_orI 12 (a &&& 15).toInt.toNat (by omega) (by omega) (by omega) (by omega)
  by_cases z1 : x = 1
  · skip
    have xI : x.toInt = 1 := by rw [z1]; rfl
    have hx2 : (x < 2) = True := eq_true (by rw [own_lt, own_l2]; omega)
    have hx3 : (x < 3) = True := eq_true (by rw [own_lt, own_l3]; omega)
    have hx4 : (x < 4) = True := eq_true (by rw [own_lt, own_l4]; omega)
    have hr1 : (p + 1 = q) = True := by rw [hq1]; exact eq_true (by rw [own_eq, own_l1]; omega)
    have hr2 : (p + 2 = q) = False := by rw [hq2]; exact eq_false (by rw [own_eq, own_l2]; omega)
    have hr3 : (p + 3 = q) = False := by rw [hq3]; exact eq_false (by rw [own_eq, own_l3]; omega)
    simp only [f2_146, f2_148, f2_141, f2_124, f2_92, f2_87, f2_70, f2_38, f2_0, f3_16, f3_16_2, f3_0, f1_198, f1_284, f1_286, f1_241, f1_179, f1_152, f1_126, f1_286_12, f1_241_11, f1_179_10, f1_152_9, f1_126_8, f1_286_17, f1_241_16, f1_179_15, f1_152_14, f1_126_13, f1_0, own_u8, own_u7, own_u6, own_u5, g0, g1, g2, g3, gx, own_11, own_12, own_13, hl194, hl224, hl240, hg223, hg239, hg244, he224, he237, he240, he244, hm1, hm2, hm3, hk1, hk2, hx2, hx3, hx4, hr1, hr2, hr3, own_k00, own_k01, own_k02, own_k03, own_k04, own_k10, own_k11, own_k12, own_k13, own_k14, own_k20, own_k21, own_k22, own_k23, own_k24, own_k30, own_k31, own_k32, own_k33, own_k34, own_k40, own_k41, own_k42, own_k43, own_k44, own_e01, own_e02, own_e03, own_e04, own_e10, own_e12, own_e13, own_e14, own_e20, own_e21, own_e23, own_e24, own_e30, own_e31, own_e32, own_e34, own_e40, own_e41, own_e42, own_e43, ↓reduceIte]
  by_cases z2 : x = 2
  · skip
    have xI : x.toInt = 2 := by rw [z2]; rfl
    have hx2 : (x < 2) = False := eq_false (by rw [own_lt, own_l2]; omega)
    have hx3 : (x < 3) = True := eq_true (by rw [own_lt, own_l3]; omega)
    have hx4 : (x < 4) = True := eq_true (by rw [own_lt, own_l4]; omega)
    have hr1 : (p + 1 = q) = False := by rw [hq1]; exact eq_false (by rw [own_eq, own_l1]; omega)
    have hr2 : (p + 2 = q) = True := by rw [hq2]; exact eq_true (by rw [own_eq, own_l2]; omega)
    have hr3 : (p + 3 = q) = False := by rw [hq3]; exact eq_false (by rw [own_eq, own_l3]; omega)
    have hnb := own_n4 b0 b1
    by_cases zb0 : b.toInt < 128
    · have hbb : (b &&& 192 = 128) = False := eq_false (by rw [hnb]; omega)
      have hab : (b < 160) = True := eq_true (by rw [own_lt, own_l160]; omega)
      have hcb : (191 < b) = False := eq_false (by rw [own_lt, own_l191]; omega)
      simp only [f2_146, f2_148, f2_141, f2_124, f2_92, f2_87, f2_70, f2_38, f2_0, f3_16, f3_16_2, f3_0, f1_198, f1_284, f1_286, f1_241, f1_179, f1_152, f1_126, f1_286_12, f1_241_11, f1_179_10, f1_152_9, f1_126_8, f1_286_17, f1_241_16, f1_179_15, f1_152_14, f1_126_13, f1_0, own_u8, own_u7, own_u6, own_u5, g0, g1, g2, g3, gx, own_11, own_12, own_13, hl194, hl224, hl240, hg223, hg239, hg244, he224, he237, he240, he244, hm1, hm2, hm3, hk1, hk2, hx2, hx3, hx4, hr1, hr2, hr3, hbb, hab, hcb, own_k00, own_k01, own_k02, own_k03, own_k04, own_k10, own_k11, own_k12, own_k13, own_k14, own_k20, own_k21, own_k22, own_k23, own_k24, own_k30, own_k31, own_k32, own_k33, own_k34, own_k40, own_k41, own_k42, own_k43, own_k44, own_e01, own_e02, own_e03, own_e04, own_e10, own_e12, own_e13, own_e14, own_e20, own_e21, own_e23, own_e24, own_e30, own_e31, own_e32, own_e34, own_e40, own_e41, own_e42, own_e43, ↓reduceIte]
    by_cases zb1 : 191 < b.toInt
    · have hbb : (b &&& 192 = 128) = False := eq_false (by rw [hnb]; omega)
      have hab : (b < 160) = False := eq_false (by rw [own_lt, own_l160]; omega)
      have hcb : (191 < b) = True := eq_true (by rw [own_lt, own_l191]; omega)
      simp only [f2_146, f2_148, f2_141, f2_124, f2_92, f2_87, f2_70, f2_38, f2_0, f3_16, f3_16_2, f3_0, f1_198, f1_284, f1_286, f1_241, f1_179, f1_152, f1_126, f1_286_12, f1_241_11, f1_179_10, f1_152_9, f1_126_8, f1_286_17, f1_241_16, f1_179_15, f1_152_14, f1_126_13, f1_0, own_u8, own_u7, own_u6, own_u5, g0, g1, g2, g3, gx, own_11, own_12, own_13, hl194, hl224, hl240, hg223, hg239, hg244, he224, he237, he240, he244, hm1, hm2, hm3, hk1, hk2, hx2, hx3, hx4, hr1, hr2, hr3, hbb, hab, hcb, own_k00, own_k01, own_k02, own_k03, own_k04, own_k10, own_k11, own_k12, own_k13, own_k14, own_k20, own_k21, own_k22, own_k23, own_k24, own_k30, own_k31, own_k32, own_k33, own_k34, own_k40, own_k41, own_k42, own_k43, own_k44, own_e01, own_e02, own_e03, own_e04, own_e10, own_e12, own_e13, own_e14, own_e20, own_e21, own_e23, own_e24, own_e30, own_e31, own_e32, own_e34, own_e40, own_e41, own_e42, own_e43, ↓reduceIte]
    by_cases zb2 : b.toInt < 160
    · have hbb : (b &&& 192 = 128) = True := eq_true (by rw [hnb]; omega)
      have hab : (b < 160) = True := eq_true (by rw [own_lt, own_l160]; omega)
      have hcb : (191 < b) = False := eq_false (by rw [own_lt, own_l191]; omega)
      have hp1 : (own_shl (a &&& 15) 12 ||| own_shl (b &&& 63) 6 < 2048) = True := eq_true (by rw [own_lt, own_l2048]; omega)
      have hp3 : (own_shl (a &&& 15) 12 ||| own_shl (b &&& 63) 6 < 55296) = True := eq_true (by rw [own_lt, own_l55296]; omega)
      have hp2 : (1114111 < own_shl (a &&& 15) 12 ||| own_shl (b &&& 63) 6) = False := eq_false (by rw [own_lt, own_l1114111]; omega)
      have hp4 : (57343 < own_shl (a &&& 15) 12 ||| own_shl (b &&& 63) 6) = False := eq_false (by rw [own_lt, own_l57343]; omega)
      simp only [f2_146, f2_148, f2_141, f2_124, f2_92, f2_87, f2_70, f2_38, f2_0, f3_16, f3_16_2, f3_0, f1_198, f1_284, f1_286, f1_241, f1_179, f1_152, f1_126, f1_286_12, f1_241_11, f1_179_10, f1_152_9, f1_126_8, f1_286_17, f1_241_16, f1_179_15, f1_152_14, f1_126_13, f1_0, own_u8, own_u7, own_u6, own_u5, g0, g1, g2, g3, gx, own_11, own_12, own_13, hl194, hl224, hl240, hg223, hg239, hg244, he224, he237, he240, he244, hm1, hm2, hm3, hk1, hk2, hx2, hx3, hx4, hr1, hr2, hr3, hbb, hab, hcb, hp1, hp3, hp2, hp4, own_k00, own_k01, own_k02, own_k03, own_k04, own_k10, own_k11, own_k12, own_k13, own_k14, own_k20, own_k21, own_k22, own_k23, own_k24, own_k30, own_k31, own_k32, own_k33, own_k34, own_k40, own_k41, own_k42, own_k43, own_k44, own_e01, own_e02, own_e03, own_e04, own_e10, own_e12, own_e13, own_e14, own_e20, own_e21, own_e23, own_e24, own_e30, own_e31, own_e32, own_e34, own_e40, own_e41, own_e42, own_e43, ↓reduceIte]
    have hbb : (b &&& 192 = 128) = True := eq_true (by rw [hnb]; omega)
    have hab : (b < 160) = False := eq_false (by rw [own_lt, own_l160]; omega)
    have hcb : (191 < b) = False := eq_false (by rw [own_lt, own_l191]; omega)
    have hp1 : (own_shl (a &&& 15) 12 ||| own_shl (b &&& 63) 6 < 2048) = False := eq_false (by rw [own_lt, own_l2048]; omega)
    have hp3 : (own_shl (a &&& 15) 12 ||| own_shl (b &&& 63) 6 < 55296) = True := eq_true (by rw [own_lt, own_l55296]; omega)
    have hp2 : (1114111 < own_shl (a &&& 15) 12 ||| own_shl (b &&& 63) 6) = False := eq_false (by rw [own_lt, own_l1114111]; omega)
    have hp4 : (57343 < own_shl (a &&& 15) 12 ||| own_shl (b &&& 63) 6) = False := eq_false (by rw [own_lt, own_l57343]; omega)
    simp only [f2_146, f2_148, f2_141, f2_124, f2_92, f2_87, f2_70, f2_38, f2_0, f3_16, f3_16_2, f3_0, f1_198, f1_284, f1_286, f1_241, f1_179, f1_152, f1_126, f1_286_12, f1_241_11, f1_179_10, f1_152_9, f1_126_8, f1_286_17, f1_241_16, f1_179_15, f1_152_14, f1_126_13, f1_0, own_u8, own_u7, own_u6, own_u5, g0, g1, g2, g3, gx, own_11, own_12, own_13, hl194, hl224, hl240, hg223, hg239, hg244, he224, he237, he240, he244, hm1, hm2, hm3, hk1, hk2, hx2, hx3, hx4, hr1, hr2, hr3, hbb, hab, hcb, hp1, hp3, hp2, hp4, own_k00, own_k01, own_k02, own_k03, own_k04, own_k10, own_k11, own_k12, own_k13, own_k14, own_k20, own_k21, own_k22, own_k23, own_k24, own_k30, own_k31, own_k32, own_k33, own_k34, own_k40, own_k41, own_k42, own_k43, own_k44, own_e01, own_e02, own_e03, own_e04, own_e10, own_e12, own_e13, own_e14, own_e20, own_e21, own_e23, own_e24, own_e30, own_e31, own_e32, own_e34, own_e40, own_e41, own_e42, own_e43, ↓reduceIte]
  by_cases z3 : x = 3
  · skip
    have xI : x.toInt = 3 := by rw [z3]; rfl
    have hx2 : (x < 2) = False := eq_false (by rw [own_lt, own_l2]; omega)
    have hx3 : (x < 3) = False := eq_false (by rw [own_lt, own_l3]; omega)
    have hx4 : (x < 4) = True := eq_true (by rw [own_lt, own_l4]; omega)
    have hr1 : (p + 1 = q) = False := by rw [hq1]; exact eq_false (by rw [own_eq, own_l1]; omega)
    have hr2 : (p + 2 = q) = False := by rw [hq2]; exact eq_false (by rw [own_eq, own_l2]; omega)
    have hr3 : (p + 3 = q) = True := by rw [hq3]; exact eq_true (by rw [own_eq, own_l3]; omega)
    have hnb := own_n4 b0 b1
    by_cases zb0 : b.toInt < 128
    · have hbb : (b &&& 192 = 128) = False := eq_false (by rw [hnb]; omega)
      have hab : (b < 160) = True := eq_true (by rw [own_lt, own_l160]; omega)
      have hcb : (191 < b) = False := eq_false (by rw [own_lt, own_l191]; omega)
      simp only [f2_146, f2_148, f2_141, f2_124, f2_92, f2_87, f2_70, f2_38, f2_0, f3_16, f3_16_2, f3_0, f1_198, f1_284, f1_286, f1_241, f1_179, f1_152, f1_126, f1_286_12, f1_241_11, f1_179_10, f1_152_9, f1_126_8, f1_286_17, f1_241_16, f1_179_15, f1_152_14, f1_126_13, f1_0, own_u8, own_u7, own_u6, own_u5, g0, g1, g2, g3, gx, own_11, own_12, own_13, hl194, hl224, hl240, hg223, hg239, hg244, he224, he237, he240, he244, hm1, hm2, hm3, hk1, hk2, hx2, hx3, hx4, hr1, hr2, hr3, hbb, hab, hcb, own_k00, own_k01, own_k02, own_k03, own_k04, own_k10, own_k11, own_k12, own_k13, own_k14, own_k20, own_k21, own_k22, own_k23, own_k24, own_k30, own_k31, own_k32, own_k33, own_k34, own_k40, own_k41, own_k42, own_k43, own_k44, own_e01, own_e02, own_e03, own_e04, own_e10, own_e12, own_e13, own_e14, own_e20, own_e21, own_e23, own_e24, own_e30, own_e31, own_e32, own_e34, own_e40, own_e41, own_e42, own_e43, ↓reduceIte]
    by_cases zb1 : 191 < b.toInt
    · have hbb : (b &&& 192 = 128) = False := eq_false (by rw [hnb]; omega)
      have hab : (b < 160) = False := eq_false (by rw [own_lt, own_l160]; omega)
      have hcb : (191 < b) = True := eq_true (by rw [own_lt, own_l191]; omega)
      simp only [f2_146, f2_148, f2_141, f2_124, f2_92, f2_87, f2_70, f2_38, f2_0, f3_16, f3_16_2, f3_0, f1_198, f1_284, f1_286, f1_241, f1_179, f1_152, f1_126, f1_286_12, f1_241_11, f1_179_10, f1_152_9, f1_126_8, f1_286_17, f1_241_16, f1_179_15, f1_152_14, f1_126_13, f1_0, own_u8, own_u7, own_u6, own_u5, g0, g1, g2, g3, gx, own_11, own_12, own_13, hl194, hl224, hl240, hg223, hg239, hg244, he224, he237, he240, he244, hm1, hm2, hm3, hk1, hk2, hx2, hx3, hx4, hr1, hr2, hr3, hbb, hab, hcb, own_k00, own_k01, own_k02, own_k03, own_k04, own_k10, own_k11, own_k12, own_k13, own_k14, own_k20, own_k21, own_k22, own_k23, own_k24, own_k30, own_k31, own_k32, own_k33, own_k34, own_k40, own_k41, own_k42, own_k43, own_k44, own_e01, own_e02, own_e03, own_e04, own_e10, own_e12, own_e13, own_e14, own_e20, own_e21, own_e23, own_e24, own_e30, own_e31, own_e32, own_e34, own_e40, own_e41, own_e42, own_e43, ↓reduceIte]
    by_cases zb2 : b.toInt < 160
    · have hbb : (b &&& 192 = 128) = True := eq_true (by rw [hnb]; omega)
      have hab : (b < 160) = True := eq_true (by rw [own_lt, own_l160]; omega)
      have hcb : (191 < b) = False := eq_false (by rw [own_lt, own_l191]; omega)
      have hp1 : (own_shl (a &&& 15) 12 ||| own_shl (b &&& 63) 6 < 2048) = True := eq_true (by rw [own_lt, own_l2048]; omega)
      have hp3 : (own_shl (a &&& 15) 12 ||| own_shl (b &&& 63) 6 < 55296) = True := eq_true (by rw [own_lt, own_l55296]; omega)
      have hp2 : (1114111 < own_shl (a &&& 15) 12 ||| own_shl (b &&& 63) 6) = False := eq_false (by rw [own_lt, own_l1114111]; omega)
      have hp4 : (57343 < own_shl (a &&& 15) 12 ||| own_shl (b &&& 63) 6) = False := eq_false (by rw [own_lt, own_l57343]; omega)
      simp only [f2_146, f2_148, f2_141, f2_124, f2_92, f2_87, f2_70, f2_38, f2_0, f3_16, f3_16_2, f3_0, f1_198, f1_284, f1_286, f1_241, f1_179, f1_152, f1_126, f1_286_12, f1_241_11, f1_179_10, f1_152_9, f1_126_8, f1_286_17, f1_241_16, f1_179_15, f1_152_14, f1_126_13, f1_0, own_u8, own_u7, own_u6, own_u5, g0, g1, g2, g3, gx, own_11, own_12, own_13, hl194, hl224, hl240, hg223, hg239, hg244, he224, he237, he240, he244, hm1, hm2, hm3, hk1, hk2, hx2, hx3, hx4, hr1, hr2, hr3, hbb, hab, hcb, hp1, hp3, hp2, hp4, own_k00, own_k01, own_k02, own_k03, own_k04, own_k10, own_k11, own_k12, own_k13, own_k14, own_k20, own_k21, own_k22, own_k23, own_k24, own_k30, own_k31, own_k32, own_k33, own_k34, own_k40, own_k41, own_k42, own_k43, own_k44, own_e01, own_e02, own_e03, own_e04, own_e10, own_e12, own_e13, own_e14, own_e20, own_e21, own_e23, own_e24, own_e30, own_e31, own_e32, own_e34, own_e40, own_e41, own_e42, own_e43, ↓reduceIte]
    have hbb : (b &&& 192 = 128) = True := eq_true (by rw [hnb]; omega)
    have hab : (b < 160) = False := eq_false (by rw [own_lt, own_l160]; omega)
    have hcb : (191 < b) = False := eq_false (by rw [own_lt, own_l191]; omega)
    have hp1 : (own_shl (a &&& 15) 12 ||| own_shl (b &&& 63) 6 < 2048) = False := eq_false (by rw [own_lt, own_l2048]; omega)
    have hp3 : (own_shl (a &&& 15) 12 ||| own_shl (b &&& 63) 6 < 55296) = True := eq_true (by rw [own_lt, own_l55296]; omega)
    have hp2 : (1114111 < own_shl (a &&& 15) 12 ||| own_shl (b &&& 63) 6) = False := eq_false (by rw [own_lt, own_l1114111]; omega)
    have hp4 : (57343 < own_shl (a &&& 15) 12 ||| own_shl (b &&& 63) 6) = False := eq_false (by rw [own_lt, own_l57343]; omega)
    have hnc := own_n4 c0 c1
    by_cases zc0 : c.toInt < 128
    · have hbc : (c &&& 192 = 128) = False := eq_false (by rw [hnc]; omega)
      have hac : (c < 128) = True := eq_true (by rw [own_lt, own_l128]; omega)
      have hcc : (191 < c) = False := eq_false (by rw [own_lt, own_l191]; omega)
      simp only [f2_146, f2_148, f2_141, f2_124, f2_92, f2_87, f2_70, f2_38, f2_0, f3_16, f3_16_2, f3_0, f1_198, f1_284, f1_286, f1_241, f1_179, f1_152, f1_126, f1_286_12, f1_241_11, f1_179_10, f1_152_9, f1_126_8, f1_286_17, f1_241_16, f1_179_15, f1_152_14, f1_126_13, f1_0, own_u8, own_u7, own_u6, own_u5, g0, g1, g2, g3, gx, own_11, own_12, own_13, hl194, hl224, hl240, hg223, hg239, hg244, he224, he237, he240, he244, hm1, hm2, hm3, hk1, hk2, hx2, hx3, hx4, hr1, hr2, hr3, hbb, hab, hcb, hp1, hp3, hp2, hp4, hbc, hac, hcc, own_k00, own_k01, own_k02, own_k03, own_k04, own_k10, own_k11, own_k12, own_k13, own_k14, own_k20, own_k21, own_k22, own_k23, own_k24, own_k30, own_k31, own_k32, own_k33, own_k34, own_k40, own_k41, own_k42, own_k43, own_k44, own_e01, own_e02, own_e03, own_e04, own_e10, own_e12, own_e13, own_e14, own_e20, own_e21, own_e23, own_e24, own_e30, own_e31, own_e32, own_e34, own_e40, own_e41, own_e42, own_e43, ↓reduceIte]
    by_cases zc1 : 191 < c.toInt
    · have hbc : (c &&& 192 = 128) = False := eq_false (by rw [hnc]; omega)
      have hac : (c < 128) = False := eq_false (by rw [own_lt, own_l128]; omega)
      have hcc : (191 < c) = True := eq_true (by rw [own_lt, own_l191]; omega)
      simp only [f2_146, f2_148, f2_141, f2_124, f2_92, f2_87, f2_70, f2_38, f2_0, f3_16, f3_16_2, f3_0, f1_198, f1_284, f1_286, f1_241, f1_179, f1_152, f1_126, f1_286_12, f1_241_11, f1_179_10, f1_152_9, f1_126_8, f1_286_17, f1_241_16, f1_179_15, f1_152_14, f1_126_13, f1_0, own_u8, own_u7, own_u6, own_u5, g0, g1, g2, g3, gx, own_11, own_12, own_13, hl194, hl224, hl240, hg223, hg239, hg244, he224, he237, he240, he244, hm1, hm2, hm3, hk1, hk2, hx2, hx3, hx4, hr1, hr2, hr3, hbb, hab, hcb, hp1, hp3, hp2, hp4, hbc, hac, hcc, own_k00, own_k01, own_k02, own_k03, own_k04, own_k10, own_k11, own_k12, own_k13, own_k14, own_k20, own_k21, own_k22, own_k23, own_k24, own_k30, own_k31, own_k32, own_k33, own_k34, own_k40, own_k41, own_k42, own_k43, own_k44, own_e01, own_e02, own_e03, own_e04, own_e10, own_e12, own_e13, own_e14, own_e20, own_e21, own_e23, own_e24, own_e30, own_e31, own_e32, own_e34, own_e40, own_e41, own_e42, own_e43, ↓reduceIte]
    have hbc : (c &&& 192 = 128) = True := eq_true (by rw [hnc]; omega)
    have hac : (c < 128) = False := eq_false (by rw [own_lt, own_l128]; omega)
    have hcc : (191 < c) = False := eq_false (by rw [own_lt, own_l191]; omega)
    simp only [f2_146, f2_148, f2_141, f2_124, f2_92, f2_87, f2_70, f2_38, f2_0, f3_16, f3_16_2, f3_0, f1_198, f1_284, f1_286, f1_241, f1_179, f1_152, f1_126, f1_286_12, f1_241_11, f1_179_10, f1_152_9, f1_126_8, f1_286_17, f1_241_16, f1_179_15, f1_152_14, f1_126_13, f1_0, own_u8, own_u7, own_u6, own_u5, g0, g1, g2, g3, gx, own_11, own_12, own_13, hl194, hl224, hl240, hg223, hg239, hg244, he224, he237, he240, he244, hm1, hm2, hm3, hk1, hk2, hx2, hx3, hx4, hr1, hr2, hr3, hbb, hab, hcb, hp1, hp3, hp2, hp4, hbc, hac, hcc, own_k00, own_k01, own_k02, own_k03, own_k04, own_k10, own_k11, own_k12, own_k13, own_k14, own_k20, own_k21, own_k22, own_k23, own_k24, own_k30, own_k31, own_k32, own_k33, own_k34, own_k40, own_k41, own_k42, own_k43, own_k44, own_e01, own_e02, own_e03, own_e04, own_e10, own_e12, own_e13, own_e14, own_e20, own_e21, own_e23, own_e24, own_e30, own_e31, own_e32, own_e34, own_e40, own_e41, own_e42, own_e43, ↓reduceIte]
  have xI : 4 ≤ x.toInt := by rw [own_eq, own_l1] at z1; rw [own_eq, own_l2] at z2; rw [own_eq, own_l3] at z3; omega
  have hx2 : (x < 2) = False := eq_false (by rw [own_lt, own_l2]; omega)
  have hx3 : (x < 3) = False := eq_false (by rw [own_lt, own_l3]; omega)
  have hx4 : (x < 4) = False := eq_false (by rw [own_lt, own_l4]; omega)
  have hr1 : (p + 1 = q) = False := by rw [hq1]; exact eq_false (by rw [own_eq, own_l1]; omega)
  have hr2 : (p + 2 = q) = False := by rw [hq2]; exact eq_false (by rw [own_eq, own_l2]; omega)
  have hr3 : (p + 3 = q) = False := by rw [hq3]; exact eq_false (by rw [own_eq, own_l3]; omega)
  have hnb := own_n4 b0 b1
  by_cases zb0 : b.toInt < 128
  · have hbb : (b &&& 192 = 128) = False := eq_false (by rw [hnb]; omega)
    have hab : (b < 160) = True := eq_true (by rw [own_lt, own_l160]; omega)
    have hcb : (191 < b) = False := eq_false (by rw [own_lt, own_l191]; omega)
    simp only [f2_146, f2_148, f2_141, f2_124, f2_92, f2_87, f2_70, f2_38, f2_0, f3_16, f3_16_2, f3_0, f1_198, f1_284, f1_286, f1_241, f1_179, f1_152, f1_126, f1_286_12, f1_241_11, f1_179_10, f1_152_9, f1_126_8, f1_286_17, f1_241_16, f1_179_15, f1_152_14, f1_126_13, f1_0, own_u8, own_u7, own_u6, own_u5, g0, g1, g2, g3, gx, own_11, own_12, own_13, hl194, hl224, hl240, hg223, hg239, hg244, he224, he237, he240, he244, hm1, hm2, hm3, hk1, hk2, hx2, hx3, hx4, hr1, hr2, hr3, hbb, hab, hcb, own_k00, own_k01, own_k02, own_k03, own_k04, own_k10, own_k11, own_k12, own_k13, own_k14, own_k20, own_k21, own_k22, own_k23, own_k24, own_k30, own_k31, own_k32, own_k33, own_k34, own_k40, own_k41, own_k42, own_k43, own_k44, own_e01, own_e02, own_e03, own_e04, own_e10, own_e12, own_e13, own_e14, own_e20, own_e21, own_e23, own_e24, own_e30, own_e31, own_e32, own_e34, own_e40, own_e41, own_e42, own_e43, ↓reduceIte]
  by_cases zb1 : 191 < b.toInt
  · have hbb : (b &&& 192 = 128) = False := eq_false (by rw [hnb]; omega)
    have hab : (b < 160) = False := eq_false (by rw [own_lt, own_l160]; omega)
    have hcb : (191 < b) = True := eq_true (by rw [own_lt, own_l191]; omega)
    simp only [f2_146, f2_148, f2_141, f2_124, f2_92, f2_87, f2_70, f2_38, f2_0, f3_16, f3_16_2, f3_0, f1_198, f1_284, f1_286, f1_241, f1_179, f1_152, f1_126, f1_286_12, f1_241_11, f1_179_10, f1_152_9, f1_126_8, f1_286_17, f1_241_16, f1_179_15, f1_152_14, f1_126_13, f1_0, own_u8, own_u7, own_u6, own_u5, g0, g1, g2, g3, gx, own_11, own_12, own_13, hl194, hl224, hl240, hg223, hg239, hg244, he224, he237, he240, he244, hm1, hm2, hm3, hk1, hk2, hx2, hx3, hx4, hr1, hr2, hr3, hbb, hab, hcb, own_k00, own_k01, own_k02, own_k03, own_k04, own_k10, own_k11, own_k12, own_k13, own_k14, own_k20, own_k21, own_k22, own_k23, own_k24, own_k30, own_k31, own_k32, own_k33, own_k34, own_k40, own_k41, own_k42, own_k43, own_k44, own_e01, own_e02, own_e03, own_e04, own_e10, own_e12, own_e13, own_e14, own_e20, own_e21, own_e23, own_e24, own_e30, own_e31, own_e32, own_e34, own_e40, own_e41, own_e42, own_e43, ↓reduceIte]
  by_cases zb2 : b.toInt < 160
  · have hbb : (b &&& 192 = 128) = True := eq_true (by rw [hnb]; omega)
    have hab : (b < 160) = True := eq_true (by rw [own_lt, own_l160]; omega)
    have hcb : (191 < b) = False := eq_false (by rw [own_lt, own_l191]; omega)
    have hp1 : (own_shl (a &&& 15) 12 ||| own_shl (b &&& 63) 6 < 2048) = True := eq_true (by rw [own_lt, own_l2048]; omega)
    have hp3 : (own_shl (a &&& 15) 12 ||| own_shl (b &&& 63) 6 < 55296) = True := eq_true (by rw [own_lt, own_l55296]; omega)
    have hp2 : (1114111 < own_shl (a &&& 15) 12 ||| own_shl (b &&& 63) 6) = False := eq_false (by rw [own_lt, own_l1114111]; omega)
    have hp4 : (57343 < own_shl (a &&& 15) 12 ||| own_shl (b &&& 63) 6) = False := eq_false (by rw [own_lt, own_l57343]; omega)
    simp only [f2_146, f2_148, f2_141, f2_124, f2_92, f2_87, f2_70, f2_38, f2_0, f3_16, f3_16_2, f3_0, f1_198, f1_284, f1_286, f1_241, f1_179, f1_152, f1_126, f1_286_12, f1_241_11, f1_179_10, f1_152_9, f1_126_8, f1_286_17, f1_241_16, f1_179_15, f1_152_14, f1_126_13, f1_0, own_u8, own_u7, own_u6, own_u5, g0, g1, g2, g3, gx, own_11, own_12, own_13, hl194, hl224, hl240, hg223, hg239, hg244, he224, he237, he240, he244, hm1, hm2, hm3, hk1, hk2, hx2, hx3, hx4, hr1, hr2, hr3, hbb, hab, hcb, hp1, hp3, hp2, hp4, own_k00, own_k01, own_k02, own_k03, own_k04, own_k10, own_k11, own_k12, own_k13, own_k14, own_k20, own_k21, own_k22, own_k23, own_k24, own_k30, own_k31, own_k32, own_k33, own_k34, own_k40, own_k41, own_k42, own_k43, own_k44, own_e01, own_e02, own_e03, own_e04, own_e10, own_e12, own_e13, own_e14, own_e20, own_e21, own_e23, own_e24, own_e30, own_e31, own_e32, own_e34, own_e40, own_e41, own_e42, own_e43, ↓reduceIte]
  have hbb : (b &&& 192 = 128) = True := eq_true (by rw [hnb]; omega)
  have hab : (b < 160) = False := eq_false (by rw [own_lt, own_l160]; omega)
  have hcb : (191 < b) = False := eq_false (by rw [own_lt, own_l191]; omega)
  have hp1 : (own_shl (a &&& 15) 12 ||| own_shl (b &&& 63) 6 < 2048) = False := eq_false (by rw [own_lt, own_l2048]; omega)
  have hp3 : (own_shl (a &&& 15) 12 ||| own_shl (b &&& 63) 6 < 55296) = True := eq_true (by rw [own_lt, own_l55296]; omega)
  have hp2 : (1114111 < own_shl (a &&& 15) 12 ||| own_shl (b &&& 63) 6) = False := eq_false (by rw [own_lt, own_l1114111]; omega)
  have hp4 : (57343 < own_shl (a &&& 15) 12 ||| own_shl (b &&& 63) 6) = False := eq_false (by rw [own_lt, own_l57343]; omega)
  have hnc := own_n4 c0 c1
  by_cases zc0 : c.toInt < 128
  · have hbc : (c &&& 192 = 128) = False := eq_false (by rw [hnc]; omega)
    have hac : (c < 128) = True := eq_true (by rw [own_lt, own_l128]; omega)
    have hcc : (191 < c) = False := eq_false (by rw [own_lt, own_l191]; omega)
    simp only [f2_146, f2_148, f2_141, f2_124, f2_92, f2_87, f2_70, f2_38, f2_0, f3_16, f3_16_2, f3_0, f1_198, f1_284, f1_286, f1_241, f1_179, f1_152, f1_126, f1_286_12, f1_241_11, f1_179_10, f1_152_9, f1_126_8, f1_286_17, f1_241_16, f1_179_15, f1_152_14, f1_126_13, f1_0, own_u8, own_u7, own_u6, own_u5, g0, g1, g2, g3, gx, own_11, own_12, own_13, hl194, hl224, hl240, hg223, hg239, hg244, he224, he237, he240, he244, hm1, hm2, hm3, hk1, hk2, hx2, hx3, hx4, hr1, hr2, hr3, hbb, hab, hcb, hp1, hp3, hp2, hp4, hbc, hac, hcc, own_k00, own_k01, own_k02, own_k03, own_k04, own_k10, own_k11, own_k12, own_k13, own_k14, own_k20, own_k21, own_k22, own_k23, own_k24, own_k30, own_k31, own_k32, own_k33, own_k34, own_k40, own_k41, own_k42, own_k43, own_k44, own_e01, own_e02, own_e03, own_e04, own_e10, own_e12, own_e13, own_e14, own_e20, own_e21, own_e23, own_e24, own_e30, own_e31, own_e32, own_e34, own_e40, own_e41, own_e42, own_e43, ↓reduceIte]
  by_cases zc1 : 191 < c.toInt
  · have hbc : (c &&& 192 = 128) = False := eq_false (by rw [hnc]; omega)
    have hac : (c < 128) = False := eq_false (by rw [own_lt, own_l128]; omega)
    have hcc : (191 < c) = True := eq_true (by rw [own_lt, own_l191]; omega)
    simp only [f2_146, f2_148, f2_141, f2_124, f2_92, f2_87, f2_70, f2_38, f2_0, f3_16, f3_16_2, f3_0, f1_198, f1_284, f1_286, f1_241, f1_179, f1_152, f1_126, f1_286_12, f1_241_11, f1_179_10, f1_152_9, f1_126_8, f1_286_17, f1_241_16, f1_179_15, f1_152_14, f1_126_13, f1_0, own_u8, own_u7, own_u6, own_u5, g0, g1, g2, g3, gx, own_11, own_12, own_13, hl194, hl224, hl240, hg223, hg239, hg244, he224, he237, he240, he244, hm1, hm2, hm3, hk1, hk2, hx2, hx3, hx4, hr1, hr2, hr3, hbb, hab, hcb, hp1, hp3, hp2, hp4, hbc, hac, hcc, own_k00, own_k01, own_k02, own_k03, own_k04, own_k10, own_k11, own_k12, own_k13, own_k14, own_k20, own_k21, own_k22, own_k23, own_k24, own_k30, own_k31, own_k32, own_k33, own_k34, own_k40, own_k41, own_k42, own_k43, own_k44, own_e01, own_e02, own_e03, own_e04, own_e10, own_e12, own_e13, own_e14, own_e20, own_e21, own_e23, own_e24, own_e30, own_e31, own_e32, own_e34, own_e40, own_e41, own_e42, own_e43, ↓reduceIte]
  have hbc : (c &&& 192 = 128) = True := eq_true (by rw [hnc]; omega)
  have hac : (c < 128) = False := eq_false (by rw [own_lt, own_l128]; omega)
  have hcc : (191 < c) = False := eq_false (by rw [own_lt, own_l191]; omega)
  simp only [f2_146, f2_148, f2_141, f2_124, f2_92, f2_87, f2_70, f2_38, f2_0, f3_16, f3_16_2, f3_0, f1_198, f1_284, f1_286, f1_241, f1_179, f1_152, f1_126, f1_286_12, f1_241_11, f1_179_10, f1_152_9, f1_126_8, f1_286_17, f1_241_16, f1_179_15, f1_152_14, f1_126_13, f1_0, own_u8, own_u7, own_u6, own_u5, g0, g1, g2, g3, gx, own_11, own_12, own_13, hl194, hl224, hl240, hg223, hg239, hg244, he224, he237, he240, he244, hm1, hm2, hm3, hk1, hk2, hx2, hx3, hx4, hr1, hr2, hr3, hbb, hab, hcb, hp1, hp3, hp2, hp4, hbc, hac, hcc, own_k00, own_k01, own_k02, own_k03, own_k04, own_k10, own_k11, own_k12, own_k13, own_k14, own_k20, own_k21, own_k22, own_k23, own_k24, own_k30, own_k31, own_k32, own_k33, own_k34, own_k40, own_k41, own_k42, own_k43, own_k44, own_e01, own_e02, own_e03, own_e04, own_e10, own_e12, own_e13, own_e14, own_e20, own_e21, own_e23, own_e24, own_e30, own_e31, own_e32, own_e34, own_e40, own_e41, own_e42, own_e43, ↓reduceIte]
theorem own_c5 (v : List Int32) (p q a b c e x : Int32) (g0 : own_get v p &&& 255 = a) (g1 : own_get v (p + 1) &&& 255 = b) (g2 : own_get v (p + 2) &&& 255 = c) (g3 : own_get v (p + 3) &&& 255 = e) (gx : q - p = x) (hq1 : (p + 1 = q) = (x = 1)) (hq2 : (p + 2 = q) = (x = 2)) (hq3 : (p + 3 = q) = (x = 3)) (x1 : 1 ≤ x.toInt) (a0 : 128 ≤ a.toInt) (a1 : a.toInt ≤ 255) (b0 : 0 ≤ b.toInt) (b1 : b.toInt ≤ 255) (c0 : 0 ≤ c.toInt) (c1 : c.toInt ≤ 255) (e0 : 0 ≤ e.toInt) (e1 : e.toInt ≤ 255) (y0 : 225 ≤ a.toInt) (y1 : a.toInt ≤ 236) : f2_0 v p q = f1_0 v p q := by
  have hl194 : (a < 194) = False := eq_false (by rw [own_lt, own_l194]; omega)
  have hl224 : (a < 224) = False := eq_false (by rw [own_lt, own_l224]; omega)
  have hl240 : (a < 240) = True := eq_true (by rw [own_lt, own_l240]; omega)
  have hg223 : (223 < a) = True := eq_true (by rw [own_lt, own_l223]; omega)
  have hg239 : (239 < a) = False := eq_false (by rw [own_lt, own_l239]; omega)
  have hg244 : (244 < a) = False := eq_false (by rw [own_lt, own_l244]; omega)
  have he224 : (a = 224) = False := eq_false (by rw [own_eq, own_l224]; omega)
  have he237 : (a = 237) = False := eq_false (by rw [own_eq, own_l237]; omega)
  have he240 : (a = 240) = False := eq_false (by rw [own_eq, own_l240]; omega)
  have he244 : (a = 244) = False := eq_false (by rw [own_eq, own_l244]; omega)
  have hm1 : (a &&& 224 = 192) = False := eq_false (by rw [own_n1 (by omega) a1]; omega)
  have hm2 : (a &&& 240 = 224) = True := eq_true (by rw [own_n2 (by omega) a1]; omega)
  have hm3 : (a &&& 248 = 240) = False := eq_false (by rw [own_n3 (by omega) a1]; omega)
  have em := Jvm.Kit.i32_mask a 15 (k := 4) (by decide) (by decide)
  have e9 : (own_shl (a &&& 15) 12).toInt = (a &&& 15).toInt * 2 ^ 12 := own_shlI _ _ (k := 12) (by decide) (by omega) (by omega)
  have ea : (own_shl (a &&& 15) 12 + 4095).toInt = (own_shl (a &&& 15) 12).toInt + 4095 := Jvm.Kit.i32_add (by rw [own_l4095]; omega) (by rw [own_l4095]; omega)
  have hk1 : (own_shl (a &&& 15) 12 + 4095 < 2048) = False := eq_false (by rw [own_lt, own_l2048]; omega)
  have hk2 : (1114111 < own_shl (a &&& 15) 12) = False := eq_false (by rw [own_lt, own_l1114111]; omega)
  have eb := Jvm.Kit.i32_mask b 63 (k := 6) (by decide) (by decide)
  have es : (own_shl (b &&& 63) 6).toInt = (b &&& 63).toInt * 2 ^ 6 := own_shlI _ _ (k := 6) (by decide) (by omega) (by omega)
  have ec : (own_shl (a &&& 15) 12 ||| own_shl (b &&& 63) 6).toInt = (own_shl (a &&& 15) 12).toInt + (own_shl (b &&& 63) 6).toInt := own_orI 12 (a &&& 15).toInt.toNat (by omega) (by omega) (by omega) (by omega)
  by_cases z1 : x = 1
  · skip
    have xI : x.toInt = 1 := by rw [z1]; rfl
    have hx2 : (x < 2) = True := eq_true (by rw [own_lt, own_l2]; omega)
    have hx3 : (x < 3) = True := eq_true (by rw [own_lt, own_l3]; omega)
    have hx4 : (x < 4) = True := eq_true (by rw [own_lt, own_l4]; omega)
    have hr1 : (p + 1 = q) = True := by rw [hq1]; exact eq_true (by rw [own_eq, own_l1]; omega)
    have hr2 : (p + 2 = q) = False := by rw [hq2]; exact eq_false (by rw [own_eq, own_l2]; omega)
    have hr3 : (p + 3 = q) = False := by rw [hq3]; exact eq_false (by rw [own_eq, own_l3]; omega)
    simp only [f2_146, f2_148, f2_141, f2_124, f2_92, f2_87, f2_70, f2_38, f2_0, f3_16, f3_16_2, f3_0, f1_198, f1_284, f1_286, f1_241, f1_179, f1_152, f1_126, f1_286_12, f1_241_11, f1_179_10, f1_152_9, f1_126_8, f1_286_17, f1_241_16, f1_179_15, f1_152_14, f1_126_13, f1_0, own_u8, own_u7, own_u6, own_u5, g0, g1, g2, g3, gx, own_11, own_12, own_13, hl194, hl224, hl240, hg223, hg239, hg244, he224, he237, he240, he244, hm1, hm2, hm3, hk1, hk2, hx2, hx3, hx4, hr1, hr2, hr3, own_k00, own_k01, own_k02, own_k03, own_k04, own_k10, own_k11, own_k12, own_k13, own_k14, own_k20, own_k21, own_k22, own_k23, own_k24, own_k30, own_k31, own_k32, own_k33, own_k34, own_k40, own_k41, own_k42, own_k43, own_k44, own_e01, own_e02, own_e03, own_e04, own_e10, own_e12, own_e13, own_e14, own_e20, own_e21, own_e23, own_e24, own_e30, own_e31, own_e32, own_e34, own_e40, own_e41, own_e42, own_e43, ↓reduceIte]
  by_cases z2 : x = 2
  · skip
    have xI : x.toInt = 2 := by rw [z2]; rfl
    have hx2 : (x < 2) = False := eq_false (by rw [own_lt, own_l2]; omega)
    have hx3 : (x < 3) = True := eq_true (by rw [own_lt, own_l3]; omega)
    have hx4 : (x < 4) = True := eq_true (by rw [own_lt, own_l4]; omega)
    have hr1 : (p + 1 = q) = False := by rw [hq1]; exact eq_false (by rw [own_eq, own_l1]; omega)
    have hr2 : (p + 2 = q) = True := by rw [hq2]; exact eq_true (by rw [own_eq, own_l2]; omega)
    have hr3 : (p + 3 = q) = False := by rw [hq3]; exact eq_false (by rw [own_eq, own_l3]; omega)
    have hnb := own_n4 b0 b1
    by_cases zb0 : b.toInt < 128
    · have hbb : (b &&& 192 = 128) = False := eq_false (by rw [hnb]; omega)
      have hab : (b < 128) = True := eq_true (by rw [own_lt, own_l128]; omega)
      have hcb : (191 < b) = False := eq_false (by rw [own_lt, own_l191]; omega)
      simp only [f2_146, f2_148, f2_141, f2_124, f2_92, f2_87, f2_70, f2_38, f2_0, f3_16, f3_16_2, f3_0, f1_198, f1_284, f1_286, f1_241, f1_179, f1_152, f1_126, f1_286_12, f1_241_11, f1_179_10, f1_152_9, f1_126_8, f1_286_17, f1_241_16, f1_179_15, f1_152_14, f1_126_13, f1_0, own_u8, own_u7, own_u6, own_u5, g0, g1, g2, g3, gx, own_11, own_12, own_13, hl194, hl224, hl240, hg223, hg239, hg244, he224, he237, he240, he244, hm1, hm2, hm3, hk1, hk2, hx2, hx3, hx4, hr1, hr2, hr3, hbb, hab, hcb, own_k00, own_k01, own_k02, own_k03, own_k04, own_k10, own_k11, own_k12, own_k13, own_k14, own_k20, own_k21, own_k22, own_k23, own_k24, own_k30, own_k31, own_k32, own_k33, own_k34, own_k40, own_k41, own_k42, own_k43, own_k44, own_e01, own_e02, own_e03, own_e04, own_e10, own_e12, own_e13, own_e14, own_e20, own_e21, own_e23, own_e24, own_e30, own_e31, own_e32, own_e34, own_e40, own_e41, own_e42, own_e43, ↓reduceIte]
    by_cases zb1 : 191 < b.toInt
    · have hbb : (b &&& 192 = 128) = False := eq_false (by rw [hnb]; omega)
      have hab : (b < 128) = False := eq_false (by rw [own_lt, own_l128]; omega)
      have hcb : (191 < b) = True := eq_true (by rw [own_lt, own_l191]; omega)
      simp only [f2_146, f2_148, f2_141, f2_124, f2_92, f2_87, f2_70, f2_38, f2_0, f3_16, f3_16_2, f3_0, f1_198, f1_284, f1_286, f1_241, f1_179, f1_152, f1_126, f1_286_12, f1_241_11, f1_179_10, f1_152_9, f1_126_8, f1_286_17, f1_241_16, f1_179_15, f1_152_14, f1_126_13, f1_0, own_u8, own_u7, own_u6, own_u5, g0, g1, g2, g3, gx, own_11, own_12, own_13, hl194, hl224, hl240, hg223, hg239, hg244, he224, he237, he240, he244, hm1, hm2, hm3, hk1, hk2, hx2, hx3, hx4, hr1, hr2, hr3, hbb, hab, hcb, own_k00, own_k01, own_k02, own_k03, own_k04, own_k10, own_k11, own_k12, own_k13, own_k14, own_k20, own_k21, own_k22, own_k23, own_k24, own_k30, own_k31, own_k32, own_k33, own_k34, own_k40, own_k41, own_k42, own_k43, own_k44, own_e01, own_e02, own_e03, own_e04, own_e10, own_e12, own_e13, own_e14, own_e20, own_e21, own_e23, own_e24, own_e30, own_e31, own_e32, own_e34, own_e40, own_e41, own_e42, own_e43, ↓reduceIte]
    have hbb : (b &&& 192 = 128) = True := eq_true (by rw [hnb]; omega)
    have hab : (b < 128) = False := eq_false (by rw [own_lt, own_l128]; omega)
    have hcb : (191 < b) = False := eq_false (by rw [own_lt, own_l191]; omega)
    have hp1 : (own_shl (a &&& 15) 12 ||| own_shl (b &&& 63) 6 < 2048) = False := eq_false (by rw [own_lt, own_l2048]; omega)
    have hp3 : (own_shl (a &&& 15) 12 ||| own_shl (b &&& 63) 6 < 55296) = True := eq_true (by rw [own_lt, own_l55296]; omega)
    have hp2 : (1114111 < own_shl (a &&& 15) 12 ||| own_shl (b &&& 63) 6) = False := eq_false (by rw [own_lt, own_l1114111]; omega)
    have hp4 : (57343 < own_shl (a &&& 15) 12 ||| own_shl (b &&& 63) 6) = False := eq_false (by rw [own_lt, own_l57343]; omega)
    simp only [f2_146, f2_148, f2_141, f2_124, f2_92, f2_87, f2_70, f2_38, f2_0, f3_16, f3_16_2, f3_0, f1_198, f1_284, f1_286, f1_241, f1_179, f1_152, f1_126, f1_286_12, f1_241_11, f1_179_10, f1_152_9, f1_126_8, f1_286_17, f1_241_16, f1_179_15, f1_152_14, f1_126_13, f1_0, own_u8, own_u7, own_u6, own_u5, g0, g1, g2, g3, gx, own_11, own_12, own_13, hl194, hl224, hl240, hg223, hg239, hg244, he224, he237, he240, he244, hm1, hm2, hm3, hk1, hk2, hx2, hx3, hx4, hr1, hr2, hr3, hbb, hab, hcb, hp1, hp3, hp2, hp4, own_k00, own_k01, own_k02, own_k03, own_k04, own_k10, own_k11, own_k12, own_k13, own_k14, own_k20, own_k21, own_k22, own_k23, own_k24, own_k30, own_k31, own_k32, own_k33, own_k34, own_k40, own_k41, own_k42, own_k43, own_k44, own_e01, own_e02, own_e03, own_e04, own_e10, own_e12, own_e13, own_e14, own_e20, own_e21, own_e23, own_e24, own_e30, own_e31, own_e32, own_e34, own_e40, own_e41, own_e42, own_e43, ↓reduceIte]
  by_cases z3 : x = 3
  · skip
    have xI : x.toInt = 3 := by rw [z3]; rfl
    have hx2 : (x < 2) = False := eq_false (by rw [own_lt, own_l2]; omega)
    have hx3 : (x < 3) = False := eq_false (by rw [own_lt, own_l3]; omega)
    have hx4 : (x < 4) = True := eq_true (by rw [own_lt, own_l4]; omega)
    have hr1 : (p + 1 = q) = False := by rw [hq1]; exact eq_false (by rw [own_eq, own_l1]; omega)
    have hr2 : (p + 2 = q) = False := by rw [hq2]; exact eq_false (by rw [own_eq, own_l2]; omega)
    have hr3 : (p + 3 = q) = True := by rw [hq3]; exact eq_true (by rw [own_eq, own_l3]; omega)
    have hnb := own_n4 b0 b1
    by_cases zb0 : b.toInt < 128
    · have hbb : (b &&& 192 = 128) = False := eq_false (by rw [hnb]; omega)
      have hab : (b < 128) = True := eq_true (by rw [own_lt, own_l128]; omega)
      have hcb : (191 < b) = False := eq_false (by rw [own_lt, own_l191]; omega)
      simp only [f2_146, f2_148, f2_141, f2_124, f2_92, f2_87, f2_70, f2_38, f2_0, f3_16, f3_16_2, f3_0, f1_198, f1_284, f1_286, f1_241, f1_179, f1_152, f1_126, f1_286_12, f1_241_11, f1_179_10, f1_152_9, f1_126_8, f1_286_17, f1_241_16, f1_179_15, f1_152_14, f1_126_13, f1_0, own_u8, own_u7, own_u6, own_u5, g0, g1, g2, g3, gx, own_11, own_12, own_13, hl194, hl224, hl240, hg223, hg239, hg244, he224, he237, he240, he244, hm1, hm2, hm3, hk1, hk2, hx2, hx3, hx4, hr1, hr2, hr3, hbb, hab, hcb, own_k00, own_k01, own_k02, own_k03, own_k04, own_k10, own_k11, own_k12, own_k13, own_k14, own_k20, own_k21, own_k22, own_k23, own_k24, own_k30, own_k31, own_k32, own_k33, own_k34, own_k40, own_k41, own_k42, own_k43, own_k44, own_e01, own_e02, own_e03, own_e04, own_e10, own_e12, own_e13, own_e14, own_e20, own_e21, own_e23, own_e24, own_e30, own_e31, own_e32, own_e34, own_e40, own_e41, own_e42, own_e43, ↓reduceIte]
    by_cases zb1 : 191 < b.toInt
    · have hbb : (b &&& 192 = 128) = False := eq_false (by rw [hnb]; omega)
      have hab : (b < 128) = False := eq_false (by rw [own_lt, own_l128]; omega)
      have hcb : (191 < b) = True := eq_true (by rw [own_lt, own_l191]; omega)
      simp only [f2_146, f2_148, f2_141, f2_124, f2_92, f2_87, f2_70, f2_38, f2_0, f3_16, f3_16_2, f3_0, f1_198, f1_284, f1_286, f1_241, f1_179, f1_152, f1_126, f1_286_12, f1_241_11, f1_179_10, f1_152_9, f1_126_8, f1_286_17, f1_241_16, f1_179_15, f1_152_14, f1_126_13, f1_0, own_u8, own_u7, own_u6, own_u5, g0, g1, g2, g3, gx, own_11, own_12, own_13, hl194, hl224, hl240, hg223, hg239, hg244, he224, he237, he240, he244, hm1, hm2, hm3, hk1, hk2, hx2, hx3, hx4, hr1, hr2, hr3, hbb, hab, hcb, own_k00, own_k01, own_k02, own_k03, own_k04, own_k10, own_k11, own_k12, own_k13, own_k14, own_k20, own_k21, own_k22, own_k23, own_k24, own_k30, own_k31, own_k32, own_k33, own_k34, own_k40, own_k41, own_k42, own_k43, own_k44, own_e01, own_e02, own_e03, own_e04, own_e10, own_e12, own_e13, own_e14, own_e20, own_e21, own_e23, own_e24, own_e30, own_e31, own_e32, own_e34, own_e40, own_e41, own_e42, own_e43, ↓reduceIte]
    have hbb : (b &&& 192 = 128) = True := eq_true (by rw [hnb]; omega)
    have hab : (b < 128) = False := eq_false (by rw [own_lt, own_l128]; omega)
    have hcb : (191 < b) = False := eq_false (by rw [own_lt, own_l191]; omega)
    have hp1 : (own_shl (a &&& 15) 12 ||| own_shl (b &&& 63) 6 < 2048) = False := eq_false (by rw [own_lt, own_l2048]; omega)
    have hp3 : (own_shl (a &&& 15) 12 ||| own_shl (b &&& 63) 6 < 55296) = True := eq_true (by rw [own_lt, own_l55296]; omega)
    have hp2 : (1114111 < own_shl (a &&& 15) 12 ||| own_shl (b &&& 63) 6) = False := eq_false (by rw [own_lt, own_l1114111]; omega)
    have hp4 : (57343 < own_shl (a &&& 15) 12 ||| own_shl (b &&& 63) 6) = False := eq_false (by rw [own_lt, own_l57343]; omega)
    have hnc := own_n4 c0 c1
    by_cases zc0 : c.toInt < 128
    · have hbc : (c &&& 192 = 128) = False := eq_false (by rw [hnc]; omega)
      have hac : (c < 128) = True := eq_true (by rw [own_lt, own_l128]; omega)
      have hcc : (191 < c) = False := eq_false (by rw [own_lt, own_l191]; omega)
      simp only [f2_146, f2_148, f2_141, f2_124, f2_92, f2_87, f2_70, f2_38, f2_0, f3_16, f3_16_2, f3_0, f1_198, f1_284, f1_286, f1_241, f1_179, f1_152, f1_126, f1_286_12, f1_241_11, f1_179_10, f1_152_9, f1_126_8, f1_286_17, f1_241_16, f1_179_15, f1_152_14, f1_126_13, f1_0, own_u8, own_u7, own_u6, own_u5, g0, g1, g2, g3, gx, own_11, own_12, own_13, hl194, hl224, hl240, hg223, hg239, hg244, he224, he237, he240, he244, hm1, hm2, hm3, hk1, hk2, hx2, hx3, hx4, hr1, hr2, hr3, hbb, hab, hcb, hp1, hp3, hp2, hp4, hbc, hac, hcc, own_k00, own_k01, own_k02, own_k03, own_k04, own_k10, own_k11, own_k12, own_k13, own_k14, own_k20, own_k21, own_k22, own_k23, own_k24, own_k30, own_k31, own_k32, own_k33, own_k34, own_k40, own_k41, own_k42, own_k43, own_k44, own_e01, own_e02, own_e03, own_e04, own_e10, own_e12, own_e13, own_e14, own_e20, own_e21, own_e23, own_e24, own_e30, own_e31, own_e32, own_e34, own_e40, own_e41, own_e42, own_e43, ↓reduceIte]
    by_cases zc1 : 191 < c.toInt
    · have hbc : (c &&& 192 = 128) = False := eq_false (by rw [hnc]; omega)
      have hac : (c < 128) = False := eq_false (by rw [own_lt, own_l128]; omega)
      have hcc : (191 < c) = True := eq_true (by rw [own_lt, own_l191]; omega)
      simp only [f2_146, f2_148, f2_141, f2_124, f2_92, f2_87, f2_70, f2_38, f2_0, f3_16, f3_16_2, f3_0, f1_198, f1_284, f1_286, f1_241, f1_179, f1_152, f1_126, f1_286_12, f1_241_11, f1_179_10, f1_152_9, f1_126_8, f1_286_17, f1_241_16, f1_179_15, f1_152_14, f1_126_13, f1_0, own_u8, own_u7, own_u6, own_u5, g0, g1, g2, g3, gx, own_11, own_12, own_13, hl194, hl224, hl240, hg223, hg239, hg244, he224, he237, he240, he244, hm1, hm2, hm3, hk1, hk2, hx2, hx3, hx4, hr1, hr2, hr3, hbb, hab, hcb, hp1, hp3, hp2, hp4, hbc, hac, hcc, own_k00, own_k01, own_k02, own_k03, own_k04, own_k10, own_k11, own_k12, own_k13, own_k14, own_k20, own_k21, own_k22, own_k23, own_k24, own_k30, own_k31, own_k32, own_k33, own_k34, own_k40, own_k41, own_k42, own_k43, own_k44, own_e01, own_e02, own_e03, own_e04, own_e10, own_e12, own_e13, own_e14, own_e20, own_e21, own_e23, own_e24, own_e30, own_e31, own_e32, own_e34, own_e40, own_e41, own_e42, own_e43, ↓reduceIte]
    have hbc : (c &&& 192 = 128) = True := eq_true (by rw [hnc]; omega)
    have hac : (c < 128) = False := eq_false (by rw [own_lt, own_l128]; omega)
    have hcc : (191 < c) = False := eq_false (by rw [own_lt, own_l191]; omega)
    simp only [f2_146, f2_148, f2_141, f2_124, f2_92, f2_87, f2_70, f2_38, f2_0, f3_16, f3_16_2, f3_0, f1_198, f1_284, f1_286, f1_241, f1_179, f1_152, f1_126, f1_286_12, f1_241_11, f1_179_10, f1_152_9, f1_126_8, f1_286_17, f1_241_16, f1_179_15, f1_152_14, f1_126_13, f1_0, own_u8, own_u7, own_u6, own_u5, g0, g1, g2, g3, gx, own_11, own_12, own_13, hl194, hl224, hl240, hg223, hg239, hg244, he224, he237, he240, he244, hm1, hm2, hm3, hk1, hk2, hx2, hx3, hx4, hr1, hr2, hr3, hbb, hab, hcb, hp1, hp3, hp2, hp4, hbc, hac, hcc, own_k00, own_k01, own_k02, own_k03, own_k04, own_k10, own_k11, own_k12, own_k13, own_k14, own_k20, own_k21, own_k22, own_k23, own_k24, own_k30, own_k31, own_k32, own_k33, own_k34, own_k40, own_k41, own_k42, own_k43, own_k44, own_e01, own_e02, own_e03, own_e04, own_e10, own_e12, own_e13, own_e14, own_e20, own_e21, own_e23, own_e24, own_e30, own_e31, own_e32, own_e34, own_e40, own_e41, own_e42, own_e43, ↓reduceIte]
  have xI : 4 ≤ x.toInt := by rw [own_eq, own_l1] at z1; rw [own_eq, own_l2] at z2; rw [own_eq, own_l3] at z3; omega
  have hx2 : (x < 2) = False := eq_false (by rw [own_lt, own_l2]; omega)
  have hx3 : (x < 3) = False := eq_false (by rw [own_lt, own_l3]; omega)
  have hx4 : (x < 4) = False := eq_false (by rw [own_lt, own_l4]; omega)
  have hr1 : (p + 1 = q) = False := by rw [hq1]; exact eq_false (by rw [own_eq, own_l1]; omega)
  have hr2 : (p + 2 = q) = False := by rw [hq2]; exact eq_false (by rw [own_eq, own_l2]; omega)
  have hr3 : (p + 3 = q) = False := by rw [hq3]; exact eq_false (by rw [own_eq, own_l3]; omega)
  have hnb := own_n4 b0 b1
  by_cases zb0 : b.toInt < 128
  · have hbb : (b &&& 192 = 128) = False := eq_false (by rw [hnb]; omega)
    have hab : (b < 128) = True := eq_true (by rw [own_lt, own_l128]; omega)
    have hcb : (191 < b) = False := eq_false (by rw [own_lt, own_l191]; omega)
    simp only [f2_146, f2_148, f2_141, f2_124, f2_92, f2_87, f2_70, f2_38, f2_0, f3_16, f3_16_2, f3_0, f1_198, f1_284, f1_286, f1_241, f1_179, f1_152, f1_126, f1_286_12, f1_241_11, f1_179_10, f1_152_9, f1_126_8, f1_286_17, f1_241_16, f1_179_15, f1_152_14, f1_126_13, f1_0, own_u8, own_u7, own_u6, own_u5, g0, g1, g2, g3, gx, own_11, own_12, own_13, hl194, hl224, hl240, hg223, hg239, hg244, he224, he237, he240, he244, hm1, hm2, hm3, hk1, hk2, hx2, hx3, hx4, hr1, hr2, hr3, hbb, hab, hcb, own_k00, own_k01, own_k02, own_k03, own_k04, own_k10, own_k11, own_k12, own_k13, own_k14, own_k20, own_k21, own_k22, own_k23, own_k24, own_k30, own_k31, own_k32, own_k33, own_k34, own_k40, own_k41, own_k42, own_k43, own_k44, own_e01, own_e02, own_e03, own_e04, own_e10, own_e12, own_e13, own_e14, own_e20, own_e21, own_e23, own_e24, own_e30, own_e31, own_e32, own_e34, own_e40, own_e41, own_e42, own_e43, ↓reduceIte]
  by_cases zb1 : 191 < b.toInt
  · have hbb : (b &&& 192 = 128) = False := eq_false (by rw [hnb]; omega)
    have hab : (b < 128) = False := eq_false (by rw [own_lt, own_l128]; omega)
    have hcb : (191 < b) = True := eq_true (by rw [own_lt, own_l191]; omega)
    simp only [f2_146, f2_148, f2_141, f2_124, f2_92, f2_87, f2_70, f2_38, f2_0, f3_16, f3_16_2, f3_0, f1_198, f1_284, f1_286, f1_241, f1_179, f1_152, f1_126, f1_286_12, f1_241_11, f1_179_10, f1_152_9, f1_126_8, f1_286_17, f1_241_16, f1_179_15, f1_152_14, f1_126_13, f1_0, own_u8, own_u7, own_u6, own_u5, g0, g1, g2, g3, gx, own_11, own_12, own_13, hl194, hl224, hl240, hg223, hg239, hg244, he224, he237, he240, he244, hm1, hm2, hm3, hk1, hk2, hx2, hx3, hx4, hr1, hr2, hr3, hbb, hab, hcb, own_k00, own_k01, own_k02, own_k03, own_k04, own_k10, own_k11, own_k12, own_k13, own_k14, own_k20, own_k21, own_k22, own_k23, own_k24, own_k30, own_k31, own_k32, own_k33, own_k34, own_k40, own_k41, own_k42, own_k43, own_k44, own_e01, own_e02, own_e03, own_e04, own_e10, own_e12, own_e13, own_e14, own_e20, own_e21, own_e23, own_e24, own_e30, own_e31, own_e32, own_e34, own_e40, own_e41, own_e42, own_e43, ↓reduceIte]
  have hbb : (b &&& 192 = 128) = True := eq_true (by rw [hnb]; omega)
  have hab : (b < 128) = False := eq_false (by rw [own_lt, own_l128]; omega)
  have hcb : (191 < b) = False := eq_false (by rw [own_lt, own_l191]; omega)
  have hp1 : (own_shl (a &&& 15) 12 ||| own_shl (b &&& 63) 6 < 2048) = False := eq_false (by rw [own_lt, own_l2048]; omega)
  have hp3 : (own_shl (a &&& 15) 12 ||| own_shl (b &&& 63) 6 < 55296) = True := eq_true (by rw [own_lt, own_l55296]; omega)
  have hp2 : (1114111 < own_shl (a &&& 15) 12 ||| own_shl (b &&& 63) 6) = False := eq_false (by rw [own_lt, own_l1114111]; omega)
  have hp4 : (57343 < own_shl (a &&& 15) 12 ||| own_shl (b &&& 63) 6) = False := eq_false (by rw [own_lt, own_l57343]; omega)
  have hnc := own_n4 c0 c1
  by_cases zc0 : c.toInt < 128
  · have hbc : (c &&& 192 = 128) = False := eq_false (by rw [hnc]; omega)
    have hac : (c < 128) = True := eq_true (by rw [own_lt, own_l128]; omega)
    have hcc : (191 < c) = False := eq_false (by rw [own_lt, own_l191]; omega)
    simp only [f2_146, f2_148, f2_141, f2_124, f2_92, f2_87, f2_70, f2_38, f2_0, f3_16, f3_16_2, f3_0, f1_198, f1_284, f1_286, f1_241, f1_179, f1_152, f1_126, f1_286_12, f1_241_11, f1_179_10, f1_152_9, f1_126_8, f1_286_17, f1_241_16, f1_179_15, f1_152_14, f1_126_13, f1_0, own_u8, own_u7, own_u6, own_u5, g0, g1, g2, g3, gx, own_11, own_12, own_13, hl194, hl224, hl240, hg223, hg239, hg244, he224, he237, he240, he244, hm1, hm2, hm3, hk1, hk2, hx2, hx3, hx4, hr1, hr2, hr3, hbb, hab, hcb, hp1, hp3, hp2, hp4, hbc, hac, hcc, own_k00, own_k01, own_k02, own_k03, own_k04, own_k10, own_k11, own_k12, own_k13, own_k14, own_k20, own_k21, own_k22, own_k23, own_k24, own_k30, own_k31, own_k32, own_k33, own_k34, own_k40, own_k41, own_k42, own_k43, own_k44, own_e01, own_e02, own_e03, own_e04, own_e10, own_e12, own_e13, own_e14, own_e20, own_e21, own_e23, own_e24, own_e30, own_e31, own_e32, own_e34, own_e40, own_e41, own_e42, own_e43, ↓reduceIte]
  by_cases zc1 : 191 < c.toInt
  · have hbc : (c &&& 192 = 128) = False := eq_false (by rw [hnc]; omega)
    have hac : (c < 128) = False := eq_false (by rw [own_lt, own_l128]; omega)
    have hcc : (191 < c) = True := eq_true (by rw [own_lt, own_l191]; omega)
    simp only [f2_146, f2_148, f2_141, f2_124, f2_92, f2_87, f2_70, f2_38, f2_0, f3_16, f3_16_2, f3_0, f1_198, f1_284, f1_286, f1_241, f1_179, f1_152, f1_126, f1_286_12, f1_241_11, f1_179_10, f1_152_9, f1_126_8, f1_286_17, f1_241_16, f1_179_15, f1_152_14, f1_126_13, f1_0, own_u8, own_u7, own_u6, own_u5, g0, g1, g2, g3, gx, own_11, own_12, own_13, hl194, hl224, hl240, hg223, hg239, hg244, he224, he237, he240, he244, hm1, hm2, hm3, hk1, hk2, hx2, hx3, hx4, hr1, hr2, hr3, hbb, hab, hcb, hp1, hp3, hp2, hp4, hbc, hac, hcc, own_k00, own_k01, own_k02, own_k03, own_k04, own_k10, own_k11, own_k12, own_k13, own_k14, own_k20, own_k21, own_k22, own_k23, own_k24, own_k30, own_k31, own_k32, own_k33, own_k34, own_k40, own_k41, own_k42, own_k43, own_k44, own_e01, own_e02, own_e03, own_e04, own_e10, own_e12, own_e13, own_e14, own_e20, own_e21, own_e23, own_e24, own_e30, own_e31, own_e32, own_e34, own_e40, own_e41, own_e42, own_e43, ↓reduceIte]
  have hbc : (c &&& 192 = 128) = True := eq_true (by rw [hnc]; omega)
  have hac : (c < 128) = False := eq_false (by rw [own_lt, own_l128]; omega)
  have hcc : (191 < c) = False := eq_false (by rw [own_lt, own_l191]; omega)
  simp only [f2_146, f2_148, f2_141, f2_124, f2_92, f2_87, f2_70, f2_38, f2_0, f3_16, f3_16_2, f3_0, f1_198, f1_284, f1_286, f1_241, f1_179, f1_152, f1_126, f1_286_12, f1_241_11, f1_179_10, f1_152_9, f1_126_8, f1_286_17, f1_241_16, f1_179_15, f1_152_14, f1_126_13, f1_0, own_u8, own_u7, own_u6, own_u5, g0, g1, g2, g3, gx, own_11, own_12, own_13, hl194, hl224, hl240, hg223, hg239, hg244, he224, he237, he240, he244, hm1, hm2, hm3, hk1, hk2, hx2, hx3, hx4, hr1, hr2, hr3, hbb, hab, hcb, hp1, hp3, hp2, hp4, hbc, hac, hcc, own_k00, own_k01, own_k02, own_k03, own_k04, own_k10, own_k11, own_k12, own_k13, own_k14, own_k20, own_k21, own_k22, own_k23, own_k24, own_k30, own_k31, own_k32, own_k33, own_k34, own_k40, own_k41, own_k42, own_k43, own_k44, own_e01, own_e02, own_e03, own_e04, own_e10, own_e12, own_e13, own_e14, own_e20, own_e21, own_e23, own_e24, own_e30, own_e31, own_e32, own_e34, own_e40, own_e41, own_e42, own_e43, ↓reduceIte]
theorem own_c6 (v : List Int32) (p q a b c e x : Int32) (g0 : own_get v p &&& 255 = a) (g1 : own_get v (p + 1) &&& 255 = b) (g2 : own_get v (p + 2) &&& 255 = c) (g3 : own_get v (p + 3) &&& 255 = e) (gx : q - p = x) (hq1 : (p + 1 = q) = (x = 1)) (hq2 : (p + 2 = q) = (x = 2)) (hq3 : (p + 3 = q) = (x = 3)) (x1 : 1 ≤ x.toInt) (a0 : 128 ≤ a.toInt) (a1 : a.toInt ≤ 255) (b0 : 0 ≤ b.toInt) (b1 : b.toInt ≤ 255) (c0 : 0 ≤ c.toInt) (c1 : c.toInt ≤ 255) (e0 : 0 ≤ e.toInt) (e1 : e.toInt ≤ 255) (y0 : 237 ≤ a.toInt) (y1 : a.toInt ≤ 237) : f2_0 v p q = f1_0 v p q := by
  have hl194 : (a < 194) = False := eq_false (by rw [own_lt, own_l194]; omega)
  have hl224 : (a < 224) = False := eq_false (by rw [own_lt, own_l224]; omega)
  have hl240 : (a < 240) = True := eq_true (by rw [own_lt, own_l240]; omega)
  have hg223 : (223 < a) = True := eq_true (by rw [own_lt, own_l223]; omega)
  have hg239 : (239 < a) = False := eq_false (by rw [own_lt, own_l239]; omega)
  have hg244 : (244 < a) = False := eq_false (by rw [own_lt, own_l244]; omega)
  have he224 : (a = 224) = False := eq_false (by rw [own_eq, own_l224]; omega)
  have he237 : (a = 237) = True := eq_true (by rw [own_eq, own_l237]; omega)
  have he240 : (a = 240) = False := eq_false (by rw [own_eq, own_l240]; omega)
  have he244 : (a = 244) = False := eq_false (by rw [own_eq, own_l244]; omega)
  have hm1 : (a &&& 224 = 192) = False := eq_false (by rw [own_n1 (by omega) a1]; omega)
  have hm2 : (a &&& 240 = 224) = True := eq_true (by rw [own_n2 (by omega) a1]; omega)
  have hm3 : (a &&& 248 = 240) = False := eq_false (by rw [own_n3 (by omega) a1]; omega)
  have em := Jvm.Kit.i32_mask a 15 (k := 4) (by decide) (by decide)
  have e9 : (own_shl (a &&& 15) 12).toInt = (a &&& 15).toInt * 2 ^ 12 := own_shlI _ _ (k := 12) (by decide) (by omega) (by omega)
  have ea : (own_shl (a &&& 15) 12 + 4095).toInt = (own_shl (a &&& 15) 12).toInt + 4095 := Jvm.Kit.i32_add (by rw [own_l4095]; omega) (by rw [own_l4095]; omega)
  have hk1 : (own_shl (a &&& 15) 12 + 4095 < 2048) = False := eq_false (by rw [own_lt, own_l2048]; omega)
  have hk2 : (1114111 < own_shl (a &&& 15) 12) = False := eq_false (by rw [own_lt, own_l1114111]; omega)
  have eb := Jvm.Kit.i32_mask b 63 (k := 6) (by decide) (by decide)
  have es : (own_shl (b &&& 63) 6).toInt = (b &&& 63).toInt * 2 ^ 6 := own_shlI _ _ (k := 6) (by decide) (by omega) (by omega)
  have ec : (own_shl (a &&& 15) 12 ||| own_shl (b &&& 63) 6).toInt = (own_shl (a &&& 15) 12).toInt + (own_shl (b &&& 63) 6).toInt := own_orI 12 (a &&& 15).toInt.toNat (by omega) (by omega) (by omega) (by omega)
  by_cases z1 : x = 1
  · skip
    have xI : x.toInt = 1 := by rw [z1]; rfl
    have hx2 : (x < 2) = True := eq_true (by rw [own_lt, own_l2]; omega)
    have hx3 : (x < 3) = True := eq_true (by rw [own_lt, own_l3]; omega)
    have hx4 : (x < 4) = True := eq_true (by rw [own_lt, own_l4]; omega)
    have hr1 : (p + 1 = q) = True := by rw [hq1]; exact eq_true (by rw [own_eq, own_l1]; omega)
    have hr2 : (p + 2 = q) = False := by rw [hq2]; exact eq_false (by rw [own_eq, own_l2]; omega)
    have hr3 : (p + 3 = q) = False := by rw [hq3]; exact eq_false (by rw [own_eq, own_l3]; omega)
    simp only [f2_146, f2_148, f2_141, f2_124, f2_92, f2_87, f2_70, f2_38, f2_0, f3_16, f3_16_2, f3_0, f1_198, f1_284, f1_286, f1_241, f1_179, f1_152, f1_126, f1_286_12, f1_241_11, f1_179_10, f1_152_9, f1_126_8, f1_286_17, f1_241_16, f1_179_15, f1_152_14, f1_126_13, f1_0, own_u8, own_u7, own_u6, own_u5, g0, g1, g2, g3, gx, own_11, own_12, own_13, hl194, hl224, hl240, hg223, hg239, hg244, he224, he237, he240, he244, hm1, hm2, hm3, hk1, hk2, hx2, hx3, hx4, hr1, hr2, hr3, own_k00, own_k01, own_k02, own_k03, own_k04, own_k10, own_k11, own_k12, own_k13, own_k14, own_k20, own_k21, own_k22, own_k23, own_k24, own_k30, own_k31, own_k32, own_k33, own_k34, own_k40, own_k41, own_k42, own_k43, own_k44, own_e01, own_e02, own_e03, own_e04, own_e10, own_e12, own_e13, own_e14, own_e20, own_e21, own_e23, own_e24, own_e30, own_e31, own_e32, own_e34, own_e40, own_e41, own_e42, own_e43, ↓reduceIte]
  by_cases z2 : x = 2
  · skip
    have xI : x.toInt = 2 := by rw [z2]; rfl
    have hx2 : (x < 2) = False := eq_false (by rw [own_lt, own_l2]; omega)
    have hx3 : (x < 3) = True := eq_true (by rw [own_lt, own_l3]; omega)
    have hx4 : (x < 4) = True := eq_true (by rw [own_lt, own_l4]; omega)
    have hr1 : (p + 1 = q) = False := by rw [hq1]; exact eq_false (by rw [own_eq, own_l1]; omega)
    have hr2 : (p + 2 = q) = True := by rw [hq2]; exact eq_true (by rw [own_eq, own_l2]; omega)
    have hr3 : (p + 3 = q) = False := by rw [hq3]; exact eq_false (by rw [own_eq, own_l3]; omega)
    have hnb := own_n4 b0 b1
    by_cases zb0 : b.toInt < 128
    · have hbb : (b &&& 192 = 128) = False := eq_false (by rw [hnb]; omega)
      have hab : (b < 128) = True := eq_true (by rw [own_lt, own_l128]; omega)
      have hcb : (159 < b) = False := eq_false (by rw [own_lt, own_l159]; omega)
      simp only [f2_146, f2_148, f2_141, f2_124, f2_92, f2_87, f2_70, f2_38, f2_0, f3_16, f3_16_2, f3_0, f1_198, f1_284, f1_286, f1_241, f1_179, f1_152, f1_126, f1_286_12, f1_241_11, f1_179_10, f1_152_9, f1_126_8, f1_286_17, f1_241_16, f1_179_15, f1_152_14, f1_126_13, f1_0, own_u8, own_u7, own_u6, own_u5, g0, g1, g2, g3, gx, own_11, own_12, own_13, hl194, hl224, hl240, hg223, hg239, hg244, he224, he237, he240, he244, hm1, hm2, hm3, hk1, hk2, hx2, hx3, hx4, hr1, hr2, hr3, hbb, hab, hcb, own_k00, own_k01, own_k02, own_k03, own_k04, own_k10, own_k11, own_k12, own_k13, own_k14, own_k20, own_k21, own_k22, own_k23, own_k24, own_k30, own_k31, own_k32, own_k33, own_k34, own_k40, own_k41, own_k42, own_k43, own_k44, own_e01, own_e02, own_e03, own_e04, own_e10, own_e12, own_e13, own_e14, own_e20, own_e21, own_e23, own_e24, own_e30, own_e31, own_e32, own_e34, own_e40, own_e41, own_e42, own_e43, ↓reduceIte]
    by_cases zb1 : 191 < b.toInt
    · have hbb : (b &&& 192 = 128) = False := eq_false (by rw [hnb]; omega)
      have hab : (b < 128) = False := eq_false (by rw [own_lt, own_l128]; omega)
      have hcb : (159 < b) = True := eq_true (by rw [own_lt, own_l159]; omega)
      simp only [f2_146, f2_148, f2_141, f2_124, f2_92, f2_87, f2_70, f2_38, f2_0, f3_16, f3_16_2, f3_0, f1_198, f1_284, f1_286, f1_241, f1_179, f1_152, f1_126, f1_286_12, f1_241_11, f1_179_10, f1_152_9, f1_126_8, f1_286_17, f1_241_16, f1_179_15, f1_152_14, f1_126_13, f1_0, own_u8, own_u7, own_u6, own_u5, g0, g1, g2, g3, gx, own_11, own_12, own_13, hl194, hl224, hl240, hg223, hg239, hg244, he224, he237, he240, he244, hm1, hm2, hm3, hk1, hk2, hx2, hx3, hx4, hr1, hr2, hr3, hbb, hab, hcb, own_k00, own_k01, own_k02, own_k03, own_k04, own_k10, own_k11, own_k12, own_k13, own_k14, own_k20, own_k21, own_k22, own_k23, own_k24, own_k30, own_k31, own_k32, own_k33, own_k34, own_k40, own_k41, own_k42, own_k43, own_k44, own_e01, own_e02, own_e03, own_e04, own_e10, own_e12, own_e13, own_e14, own_e20, own_e21, own_e23, own_e24, own_e30, own_e31, own_e32, own_e34, own_e40, own_e41, own_e42, own_e43, ↓reduceIte]
    by_cases zb2 : 159 < b.toInt
    · have hbb : (b &&& 192 = 128) = True := eq_true (by rw [hnb]; omega)
      have hab : (b < 128) = False := eq_false (by rw [own_lt, own_l128]; omega)
      have hcb : (159 < b) = True := eq_true (by rw [own_lt, own_l159]; omega)
      have hp1 : (own_shl (a &&& 15) 12 ||| own_shl (b &&& 63) 6 < 2048) = False := eq_false (by rw [own_lt, own_l2048]; omega)
      have hp3 : (own_shl (a &&& 15) 12 ||| own_shl (b &&& 63) 6 < 55296) = False := eq_false (by rw [own_lt, own_l55296]; omega)
      have hp2 : (1114111 < own_shl (a &&& 15) 12 ||| own_shl (b &&& 63) 6) = False := eq_false (by rw [own_lt, own_l1114111]; omega)
      have hp4 : (57343 < own_shl (a &&& 15) 12 ||| own_shl (b &&& 63) 6) = False := eq_false (by rw [own_lt, own_l57343]; omega)
      simp only [f2_146, f2_148, f2_141, f2_124, f2_92, f2_87, f2_70, f2_38, f2_0, f3_16, f3_16_2, f3_0, f1_198, f1_284, f1_286, f1_241, f1_179, f1_152, f1_126, f1_286_12, f1_241_11, f1_179_10, f1_152_9, f1_126_8, f1_286_17, f1_241_16, f1_179_15, f1_152_14, f1_126_13, f1_0, own_u8, own_u7, own_u6, own_u5, g0, g1, g2, g3, gx, own_11, own_12, own_13, hl194, hl224, hl240, hg223, hg239, hg244, he224, he237, he240, he244, hm1, hm2, hm3, hk1, hk2, hx2, hx3, hx4, hr1, hr2, hr3, hbb, hab, hcb, hp1, hp3, hp2, hp4, own_k00, own_k01, own_k02, own_k03, own_k04, own_k10, own_k11, own_k12, own_k13, own_k14, own_k20, own_k21, own_k22, own_k23, own_k24, own_k30, own_k31, own_k32, own_k33, own_k34, own_k40, own_k41, own_k42, own_k43, own_k44, own_e01, own_e02, own_e03, own_e04, own_e10, own_e12, own_e13, own_e14, own_e20, own_e21, own_e23, own_e24, own_e30, own_e31, own_e32, own_e34, own_e40, own_e41, own_e42, own_e43, ↓reduceIte]
    have hbb : (b &&& 192 = 128) = True := eq_true (by rw [hnb]; omega)
    have hab : (b < 128) = False := eq_false (by rw [own_lt, own_l128]; omega)
    have hcb : (159 < b) = False := eq_false (by rw [own_lt, own_l159]; omega)
    have hp1 : (own_shl (a &&& 15) 12 ||| own_shl (b &&& 63) 6 < 2048) = False := eq_false (by rw [own_lt, own_l2048]; omega)
    have hp3 : (own_shl (a &&& 15) 12 ||| own_shl (b &&& 63) 6 < 55296) = True := eq_true (by rw [own_lt, own_l55296]; omega)
    have hp2 : (1114111 < own_shl (a &&& 15) 12 ||| own_shl (b &&& 63) 6) = False := eq_false (by rw [own_lt, own_l1114111]; omega)
    have hp4 : (57343 < own_shl (a &&& 15) 12 ||| own_shl (b &&& 63) 6) = False := eq_false (by rw [own_lt, own_l57343]; omega)
    simp only [f2_146, f2_148, f2_141, f2_124, f2_92, f2_87, f2_70, f2_38, f2_0, f3_16, f3_16_2, f3_0, f1_198, f1_284, f1_286, f1_241, f1_179, f1_152, f1_126, f1_286_12, f1_241_11, f1_179_10, f1_152_9, f1_126_8, f1_286_17, f1_241_16, f1_179_15, f1_152_14, f1_126_13, f1_0, own_u8, own_u7, own_u6, own_u5, g0, g1, g2, g3, gx, own_11, own_12, own_13, hl194, hl224, hl240, hg223, hg239, hg244, he224, he237, he240, he244, hm1, hm2, hm3, hk1, hk2, hx2, hx3, hx4, hr1, hr2, hr3, hbb, hab, hcb, hp1, hp3, hp2, hp4, own_k00, own_k01, own_k02, own_k03, own_k04, own_k10, own_k11, own_k12, own_k13, own_k14, own_k20, own_k21, own_k22, own_k23, own_k24, own_k30, own_k31, own_k32, own_k33, own_k34, own_k40, own_k41, own_k42, own_k43, own_k44, own_e01, own_e02, own_e03, own_e04, own_e10, own_e12, own_e13, own_e14, own_e20, own_e21, own_e23, own_e24, own_e30, own_e31, own_e32, own_e34, own_e40, own_e41, own_e42, own_e43, ↓reduceIte]
  by_cases z3 : x = 3
  · skip
    have xI : x.toInt = 3 := by rw [z3]; rfl
    have hx2 : (x < 2) = False := eq_false (by rw [own_lt, own_l2]; omega)
    have hx3 : (x < 3) = False := eq_false (by rw [own_lt, own_l3]; omega)
    have hx4 : (x < 4) = True := eq_true (by rw [own_lt, own_l4]; omega)
    have hr1 : (p + 1 = q) = False := by rw [hq1]; exact eq_false (by rw [own_eq, own_l1]; omega)
    have hr2 : (p + 2 = q) = False := by rw [hq2]; exact eq_false (by rw [own_eq, own_l2]; omega)
    have hr3 : (p + 3 = q) = True := by rw [hq3]; exact eq_true (by rw [own_eq, own_l3]; omega)
    have hnb := own_n4 b0 b1
    by_cases zb0 : b.toInt < 128
    · have hbb : (b &&& 192 = 128) = False := eq_false (by rw [hnb]; omega)
      have hab : (b < 128) = True := eq_true (by rw [own_lt, own_l128]; omega)
      have hcb : (159 < b) = False := eq_false (by rw [own_lt, own_l159]; omega)
      simp only [f2_146, f2_148, f2_141, f2_124, f2_92, f2_87, f2_70, f2_38, f2_0, f3_16, f3_16_2, f3_0, f1_198, f1_284, f1_286, f1_241, f1_179, f1_152, f1_126, f1_286_12, f1_241_11, f1_179_10, f1_152_9, f1_126_8, f1_286_17, f1_241_16, f1_179_15, f1_152_14, f1_126_13, f1_0, own_u8, own_u7, own_u6, own_u5, g0, g1, g2, g3, gx, own_11, own_12, own_13, hl194, hl224, hl240, hg223, hg239, hg244, he224, he237, he240, he244, hm1, hm2, hm3, hk1, hk2, hx2, hx3, hx4, hr1, hr2, hr3, hbb, hab, hcb, own_k00, own_k01, own_k02, own_k03, own_k04, own_k10, own_k11, own_k12, own_k13, own_k14, own_k20, own_k21, own_k22, own_k23, own_k24, own_k30, own_k31, own_k32, own_k33, own_k34, own_k40, own_k41, own_k42, own_k43, own_k44, own_e01, own_e02, own_e03, own_e04, own_e10, own_e12, own_e13, own_e14, own_e20, own_e21, own_e23, own_e24, own_e30, own_e31, own_e32, own_e34, own_e40, own_e41, own_e42, own_e43, ↓reduceIte]
    by_cases zb1 : 191 < b.toInt
    · have hbb : (b &&& 192 = 128) = False := eq_false (by rw [hnb]; omega)
      have hab : (b < 128) = False := eq_false (by rw [own_lt, own_l128]; omega)
      have hcb : (159 < b) = True := eq_true (by rw [own_lt, own_l159]; omega)
      simp only [f2_146, f2_148, f2_141, f2_124, f2_92, f2_87, f2_70, f2_38, f2_0, f3_16, f3_16_2, f3_0, f1_198, f1_284, f1_286, f1_241, f1_179, f1_152, f1_126, f1_286_12, f1_241_11, f1_179_10, f1_152_9, f1_126_8, f1_286_17, f1_241_16, f1_179_15, f1_152_14, f1_126_13, f1_0, own_u8, own_u7, own_u6, own_u5, g0, g1, g2, g3, gx, own_11, own_12, own_13, hl194, hl224, hl240, hg223, hg239, hg244, he224, he237, he240, he244, hm1, hm2, hm3, hk1, hk2, hx2, hx3, hx4, hr1, hr2, hr3, hbb, hab, hcb, own_k00, own_k01, own_k02, own_k03, own_k04, own_k10, own_k11, own_k12, own_k13, own_k14, own_k20, own_k21, own_k22, own_k23, own_k24, own_k30, own_k31, own_k32, own_k33, own_k34, own_k40, own_k41, own_k42, own_k43, own_k44, own_e01, own_e02, own_e03, own_e04, own_e10, own_e12, own_e13, own_e14, own_e20, own_e21, own_e23, own_e24, own_e30, own_e31, own_e32, own_e34, own_e40, own_e41, own_e42, own_e43, ↓reduceIte]
    by_cases zb2 : 159 < b.toInt
    · have hbb : (b &&& 192 = 128) = True := eq_true (by rw [hnb]; omega)
      have hab : (b < 128) = False := eq_false (by rw [own_lt, own_l128]; omega)
      have hcb : (159 < b) = True := eq_true (by rw [own_lt, own_l159]; omega)
      have hp1 : (own_shl (a &&& 15) 12 ||| own_shl (b &&& 63) 6 < 2048) = False := eq_false (by rw [own_lt, own_l2048]; omega)
      have hp3 : (own_shl (a &&& 15) 12 ||| own_shl (b &&& 63) 6 < 55296) = False := eq_false (by rw [own_lt, own_l55296]; omega)
      have hp2 : (1114111 < own_shl (a &&& 15) 12 ||| own_shl (b &&& 63) 6) = False := eq_false (by rw [own_lt, own_l1114111]; omega)
      have hp4 : (57343 < own_shl (a &&& 15) 12 ||| own_shl (b &&& 63) 6) = False := eq_false (by rw [own_lt, own_l57343]; omega)
      simp only [f2_146, f2_148, f2_141, f2_124, f2_92, f2_87, f2_70, f2_38, f2_0, f3_16, f3_16_2, f3_0, f1_198, f1_284, f1_286, f1_241, f1_179, f1_152, f1_126, f1_286_12, f1_241_11, f1_179_10, f1_152_9, f1_126_8, f1_286_17, f1_241_16, f1_179_15, f1_152_14, f1_126_13, f1_0, own_u8, own_u7, own_u6, own_u5, g0, g1, g2, g3, gx, own_11, own_12, own_13, hl194, hl224, hl240, hg223, hg239, hg244, he224, he237, he240, he244, hm1, hm2, hm3, hk1, hk2, hx2, hx3, hx4, hr1, hr2, hr3, hbb, hab, hcb, hp1, hp3, hp2, hp4, own_k00, own_k01, own_k02, own_k03, own_k04, own_k10, own_k11, own_k12, own_k13, own_k14, own_k20, own_k21, own_k22, own_k23, own_k24, own_k30, own_k31, own_k32, own_k33, own_k34, own_k40, own_k41, own_k42, own_k43, own_k44, own_e01, own_e02, own_e03, own_e04, own_e10, own_e12, own_e13, own_e14, own_e20, own_e21, own_e23, own_e24, own_e30, own_e31, own_e32, own_e34, own_e40, own_e41, own_e42, own_e43, ↓reduceIte]
    have hbb : (b &&& 192 = 128) = True := eq_true (by rw [hnb]; omega)
    have hab : (b < 128) = False := eq_false (by rw [own_lt, own_l128]; omega)
    have hcb : (159 < b) = False := eq_false (by rw [own_lt, own_l159]; omega)
    have hp1 : (own_shl (a &&& 15) 12 ||| own_shl (b &&& 63) 6 < 2048) = False := eq_false (by rw [own_lt, own_l2048]; omega)
    have hp3 : (own_shl (a &&& 15) 12 ||| own_shl (b &&& 63) 6 < 55296) = True := eq_true (by rw [own_lt, own_l55296]; omega)
    have hp2 : (1114111 < own_shl (a &&& 15) 12 ||| own_shl (b &&& 63) 6) = False := eq_false (by rw [own_lt, own_l1114111]; omega)
    have hp4 : (57343 < own_shl (a &&& 15) 12 ||| own_shl (b &&& 63) 6) = False := eq_false (by rw [own_lt, own_l57343]; omega)
    have hnc := own_n4 c0 c1
    by_cases zc0 : c.toInt < 128
    · have hbc : (c &&& 192 = 128) = False := eq_false (by rw [hnc]; omega)
      have hac : (c < 128) = True := eq_true (by rw [own_lt, own_l128]; omega)
      have hcc : (191 < c) = False := eq_false (by rw [own_lt, own_l191]; omega)
      simp only [f2_146, f2_148, f2_141, f2_124, f2_92, f2_87, f2_70, f2_38, f2_0, f3_16, f3_16_2, f3_0, f1_198, f1_284, f1_286, f1_241, f1_179, f1_152, f1_126, f1_286_12, f1_241_11, f1_179_10, f1_152_9, f1_126_8, f1_286_17, f1_241_16, f1_179_15, f1_152_14, f1_126_13, f1_0, own_u8, own_u7, own_u6, own_u5, g0, g1, g2, g3, gx, own_11, own_12, own_13, hl194, hl224, hl240, hg223, hg239, hg244, he224, he237, he240, he244, hm1, hm2, hm3, hk1, hk2, hx2, hx3, hx4, hr1, hr2, hr3, hbb, hab, hcb, hp1, hp3, hp2, hp4, hbc, hac, hcc, own_k00, own_k01, own_k02, own_k03, own_k04, own_k10, own_k11, own_k12, own_k13, own_k14, own_k20, own_k21, own_k22, own_k23, own_k24, own_k30, own_k31, own_k32, own_k33, own_k34, own_k40, own_k41, own_k42, own_k43, own_k44, own_e01, own_e02, own_e03, own_e04, own_e10, own_e12, own_e13, own_e14, own_e20, own_e21, own_e23, own_e24, own_e30, own_e31, own_e32, own_e34, own_e40, own_e41, own_e42, own_e43, ↓reduceIte]
    by_cases zc1 : 191 < c.toInt
    · have hbc : (c &&& 192 = 128) = False := eq_false (by rw [hnc]; omega)
      have hac : (c < 128) = False := eq_false (by rw [own_lt, own_l128]; omega)
      have hcc : (191 < c) = True := eq_true (by rw [own_lt, own_l191]; omega)
      simp only [f2_146, f2_148, f2_141, f2_124, f2_92, f2_87, f2_70, f2_38, f2_0, f3_16, f3_16_2, f3_0, f1_198, f1_284, f1_286, f1_241, f1_179, f1_152, f1_126, f1_286_12, f1_241_11, f1_179_10, f1_152_9, f1_126_8, f1_286_17, f1_241_16, f1_179_15, f1_152_14, f1_126_13, f1_0, own_u8, own_u7, own_u6, own_u5, g0, g1, g2, g3, gx, own_11, own_12, own_13, hl194, hl224, hl240, hg223, hg239, hg244, he224, he237, he240, he244, hm1, hm2, hm3, hk1, hk2, hx2, hx3, hx4, hr1, hr2, hr3, hbb, hab, hcb, hp1, hp3, hp2, hp4, hbc, hac, hcc, own_k00, own_k01, own_k02, own_k03, own_k04, own_k10, own_k11, own_k12, own_k13, own_k14, own_k20, own_k21, own_k22, own_k23, own_k24, own_k30, own_k31, own_k32, own_k33, own_k34, own_k40, own_k41, own_k42, own_k43, own_k44, own_e01, own_e02, own_e03, own_e04, own_e10, own_e12, own_e13, own_e14, own_e20, own_e21, own_e23, own_e24, own_e30, own_e31, own_e32, own_e34, own_e40, own_e41, own_e42, own_e43, ↓reduceIte]
    have hbc : (c &&& 192 = 128) = True := eq_true (by rw [hnc]; omega)
    have hac : (c < 128) = False := eq_false (by rw [own_lt, own_l128]; omega)
    have hcc : (191 < c) = False := eq_false (by rw [own_lt, own_l191]; omega)
    simp only [f2_146, f2_148, f2_141, f2_124, f2_92, f2_87, f2_70, f2_38, f2_0, f3_16, f3_16_2, f3_0, f1_198, f1_284, f1_286, f1_241, f1_179, f1_152, f1_126, f1_286_12, f1_241_11, f1_179_10, f1_152_9, f1_126_8, f1_286_17, f1_241_16, f1_179_15, f1_152_14, f1_126_13, f1_0, own_u8, own_u7, own_u6, own_u5, g0, g1, g2, g3, gx, own_11, own_12, own_13, hl194, hl224, hl240, hg223, hg239, hg244, he224, he237, he240, he244, hm1, hm2, hm3, hk1, hk2, hx2, hx3, hx4, hr1, hr2, hr3, hbb, hab, hcb, hp1, hp3, hp2, hp4, hbc, hac, hcc, own_k00, own_k01, own_k02, own_k03, own_k04, own_k10, own_k11, own_k12, own_k13, own_k14, own_k20, own_k21, own_k22, own_k23, own_k24, own_k30, own_k31, own_k32, own_k33, own_k34, own_k40, own_k41, own_k42, own_k43, own_k44, own_e01, own_e02, own_e03, own_e04, own_e10, own_e12, own_e13, own_e14, own_e20, own_e21, own_e23, own_e24, own_e30, own_e31, own_e32, own_e34, own_e40, own_e41, own_e42, own_e43, ↓reduceIte]
  have xI : 4 ≤ x.toInt := by rw [own_eq, own_l1] at z1; rw [own_eq, own_l2] at z2; rw [own_eq, own_l3] at z3; omega
  have hx2 : (x < 2) = False := eq_false (by rw [own_lt, own_l2]; omega)
  have hx3 : (x < 3) = False := eq_false (by rw [own_lt, own_l3]; omega)
  have hx4 : (x < 4) = False := eq_false (by rw [own_lt, own_l4]; omega)
  have hr1 : (p + 1 = q) = False := by rw [hq1]; exact eq_false (by rw [own_eq, own_l1]; omega)
  have hr2 : (p + 2 = q) = False := by rw [hq2]; exact eq_false (by rw [own_eq, own_l2]; omega)
  have hr3 : (p + 3 = q) = False := by rw [hq3]; exact eq_false (by rw [own_eq, own_l3]; omega)
  have hnb := own_n4 b0 b1
  by_cases zb0 : b.toInt < 128
  · have hbb : (b &&& 192 = 128) = False := eq_false (by rw [hnb]; omega)
    have hab : (b < 128) = True := eq_true (by rw [own_lt, own_l128]; omega)
    have hcb : (159 < b) = False := eq_false (by rw [own_lt, own_l159]; omega)
    simp only [f2_146, f2_148, f2_141, f2_124, f2_92, f2_87, f2_70, f2_38, f2_0, f3_16, f3_16_2, f3_0, f1_198, f1_284, f1_286, f1_241, f1_179, f1_152, f1_126, f1_286_12, f1_241_11, f1_179_10, f1_152_9, f1_126_8, f1_286_17, f1_241_16, f1_179_15, f1_152_14, f1_126_13, f1_0, own_u8, own_u7, own_u6, own_u5, g0, g1, g2, g3, gx, own_11, own_12, own_13, hl194, hl224, hl240, hg223, hg239, hg244, he224, he237, he240, he244, hm1, hm2, hm3, hk1, hk2, hx2, hx3, hx4, hr1, hr2, hr3, hbb, hab, hcb, own_k00, own_k01, own_k02, own_k03, own_k04, own_k10, own_k11, own_k12, own_k13, own_k14, own_k20, own_k21, own_k22, own_k23, own_k24, own_k30, own_k31, own_k32, own_k33, own_k34, own_k40, own_k41, own_k42, own_k43, own_k44, own_e01, own_e02, own_e03, own_e04, own_e10, own_e12, own_e13, own_e14, own_e20, own_e21, own_e23, own_e24, own_e30, own_e31, own_e32, own_e34, own_e40, own_e41, own_e42, own_e43, ↓reduceIte]
  by_cases zb1 : 191 < b.toInt
  · have hbb : (b &&& 192 = 128) = False := eq_false (by rw [hnb]; omega)
    have hab : (b < 128) = False := eq_false (by rw [own_lt, own_l128]; omega)
    have hcb : (159 < b) = True := eq_true (by rw [own_lt, own_l159]; omega)
    simp only [f2_146, f2_148, f2_141, f2_124, f2_92, f2_87, f2_70, f2_38, f2_0, f3_16, f3_16_2, f3_0, f1_198, f1_284, f1_286, f1_241, f1_179, f1_152, f1_126, f1_286_12, f1_241_11, f1_179_10, f1_152_9, f1_126_8, f1_286_17, f1_241_16, f1_179_15, f1_152_14, f1_126_13, f1_0, own_u8, own_u7, own_u6, own_u5, g0, g1, g2, g3, gx, own_11, own_12, own_13, hl194, hl224, hl240, hg223, hg239, hg244, he224, he237, he240, he244, hm1, hm2, hm3, hk1, hk2, hx2, hx3, hx4, hr1, hr2, hr3, hbb, hab, hcb, own_k00, own_k01, own_k02, own_k03, own_k04, own_k10, own_k11, own_k12, own_k13, own_k14, own_k20, own_k21, own_k22, own_k23, own_k24, own_k30, own_k31, own_k32, own_k33, own_k34, own_k40, own_k41, own_k42, own_k43, own_k44, own_e01, own_e02, own_e03, own_e04, own_e10, own_e12, own_e13, own_e14, own_e20, own_e21, own_e23, own_e24, own_e30, own_e31, own_e32, own_e34, own_e40, own_e41, own_e42, own_e43, ↓reduceIte]
  by_cases zb2 : 159 < b.toInt
  · have hbb : (b &&& 192 = 128) = True := eq_true (by rw [hnb]; omega)
    have hab : (b < 128) = False := eq_false (by rw [own_lt, own_l128]; omega)
    have hcb : (159 < b) = True := eq_true (by rw [own_lt, own_l159]; omega)
    have hp1 : (own_shl (a &&& 15) 12 ||| own_shl (b &&& 63) 6 < 2048) = False := eq_false (by rw [own_lt, own_l2048]; omega)
    have hp3 : (own_shl (a &&& 15) 12 ||| own_shl (b &&& 63) 6 < 55296) = False := eq_false (by rw [own_lt, own_l55296]; omega)
    have hp2 : (1114111 < own_shl (a &&& 15) 12 ||| own_shl (b &&& 63) 6) = False := eq_false (by rw [own_lt, own_l1114111]; omega)
    have hp4 : (57343 < own_shl (a &&& 15) 12 ||| own_shl (b &&& 63) 6) = False := eq_false (by rw [own_lt, own_l57343]; omega)
    simp only [f2_146, f2_148, f2_141, f2_124, f2_92, f2_87, f2_70, f2_38, f2_0, f3_16, f3_16_2, f3_0, f1_198, f1_284, f1_286, f1_241, f1_179, f1_152, f1_126, f1_286_12, f1_241_11, f1_179_10, f1_152_9, f1_126_8, f1_286_17, f1_241_16, f1_179_15, f1_152_14, f1_126_13, f1_0, own_u8, own_u7, own_u6, own_u5, g0, g1, g2, g3, gx, own_11, own_12, own_13, hl194, hl224, hl240, hg223, hg239, hg244, he224, he237, he240, he244, hm1, hm2, hm3, hk1, hk2, hx2, hx3, hx4, hr1, hr2, hr3, hbb, hab, hcb, hp1, hp3, hp2, hp4, own_k00, own_k01, own_k02, own_k03, own_k04, own_k10, own_k11, own_k12, own_k13, own_k14, own_k20, own_k21, own_k22, own_k23, own_k24, own_k30, own_k31, own_k32, own_k33, own_k34, own_k40, own_k41, own_k42, own_k43, own_k44, own_e01, own_e02, own_e03, own_e04, own_e10, own_e12, own_e13, own_e14, own_e20, own_e21, own_e23, own_e24, own_e30, own_e31, own_e32, own_e34, own_e40, own_e41, own_e42, own_e43, ↓reduceIte]
  have hbb : (b &&& 192 = 128) = True := eq_true (by rw [hnb]; omega)
  have hab : (b < 128) = False := eq_false (by rw [own_lt, own_l128]; omega)
  have hcb : (159 < b) = False := eq_false (by rw [own_lt, own_l159]; omega)
  have hp1 : (own_shl (a &&& 15) 12 ||| own_shl (b &&& 63) 6 < 2048) = False := eq_false (by rw [own_lt, own_l2048]; omega)
  have hp3 : (own_shl (a &&& 15) 12 ||| own_shl (b &&& 63) 6 < 55296) = True := eq_true (by rw [own_lt, own_l55296]; omega)
  have hp2 : (1114111 < own_shl (a &&& 15) 12 ||| own_shl (b &&& 63) 6) = False := eq_false (by rw [own_lt, own_l1114111]; omega)
  have hp4 : (57343 < own_shl (a &&& 15) 12 ||| own_shl (b &&& 63) 6) = False := eq_false (by rw [own_lt, own_l57343]; omega)
  have hnc := own_n4 c0 c1
  by_cases zc0 : c.toInt < 128
  · have hbc : (c &&& 192 = 128) = False := eq_false (by rw [hnc]; omega)
    have hac : (c < 128) = True := eq_true (by rw [own_lt, own_l128]; omega)
    have hcc : (191 < c) = False := eq_false (by rw [own_lt, own_l191]; omega)
    simp only [f2_146, f2_148, f2_141, f2_124, f2_92, f2_87, f2_70, f2_38, f2_0, f3_16, f3_16_2, f3_0, f1_198, f1_284, f1_286, f1_241, f1_179, f1_152, f1_126, f1_286_12, f1_241_11, f1_179_10, f1_152_9, f1_126_8, f1_286_17, f1_241_16, f1_179_15, f1_152_14, f1_126_13, f1_0, own_u8, own_u7, own_u6, own_u5, g0, g1, g2, g3, gx, own_11, own_12, own_13, hl194, hl224, hl240, hg223, hg239, hg244, he224, he237, he240, he244, hm1, hm2, hm3, hk1, hk2, hx2, hx3, hx4, hr1, hr2, hr3, hbb, hab, hcb, hp1, hp3, hp2, hp4, hbc, hac, hcc, own_k00, own_k01, own_k02, own_k03, own_k04, own_k10, own_k11, own_k12, own_k13, own_k14, own_k20, own_k21, own_k22, own_k23, own_k24, own_k30, own_k31, own_k32, own_k33, own_k34, own_k40, own_k41, own_k42, own_k43, own_k44, own_e01, own_e02, own_e03, own_e04, own_e10, own_e12, own_e13, own_e14, own_e20, own_e21, own_e23, own_e24, own_e30, own_e31, own_e32, own_e34, own_e40, own_e41, own_e42, own_e43, ↓reduceIte]
  by_cases zc1 : 191 < c.toInt
  · have hbc : (c &&& 192 = 128) = False := eq_false (by rw [hnc]; omega)
    have hac : (c < 128) = False := eq_false (by rw [own_lt, own_l128]; omega)
    have hcc : (191 < c) = True := eq_true (by rw [own_lt, own_l191]; omega)
    simp only [f2_146, f2_148, f2_141, f2_124, f2_92, f2_87, f2_70, f2_38, f2_0, f3_16, f3_16_2, f3_0, f1_198, f1_284, f1_286, f1_241, f1_179, f1_152, f1_126, f1_286_12, f1_241_11, f1_179_10, f1_152_9, f1_126_8, f1_286_17, f1_241_16, f1_179_15, f1_152_14, f1_126_13, f1_0, own_u8, own_u7, own_u6, own_u5, g0, g1, g2, g3, gx, own_11, own_12, own_13, hl194, hl224, hl240, hg223, hg239, hg244, he224, he237, he240, he244, hm1, hm2, hm3, hk1, hk2, hx2, hx3, hx4, hr1, hr2, hr3, hbb, hab, hcb, hp1, hp3, hp2, hp4, hbc, hac, hcc, own_k00, own_k01, own_k02, own_k03, own_k04, own_k10, own_k11, own_k12, own_k13, own_k14, own_k20, own_k21, own_k22, own_k23, own_k24, own_k30, own_k31, own_k32, own_k33, own_k34, own_k40, own_k41, own_k42, own_k43, own_k44, own_e01, own_e02, own_e03, own_e04, own_e10, own_e12, own_e13, own_e14, own_e20, own_e21, own_e23, own_e24, own_e30, own_e31, own_e32, own_e34, own_e40, own_e41, own_e42, own_e43, ↓reduceIte]
  have hbc : (c &&& 192 = 128) = True := eq_true (by rw [hnc]; omega)
  have hac : (c < 128) = False := eq_false (by rw [own_lt, own_l128]; omega)
  have hcc : (191 < c) = False := eq_false (by rw [own_lt, own_l191]; omega)
  simp only [f2_146, f2_148, f2_141, f2_124, f2_92, f2_87, f2_70, f2_38, f2_0, f3_16, f3_16_2, f3_0, f1_198, f1_284, f1_286, f1_241, f1_179, f1_152, f1_126, f1_286_12, f1_241_11, f1_179_10, f1_152_9, f1_126_8, f1_286_17, f1_241_16, f1_179_15, f1_152_14, f1_126_13, f1_0, own_u8, own_u7, own_u6, own_u5, g0, g1, g2, g3, gx, own_11, own_12, own_13, hl194, hl224, hl240, hg223, hg239, hg244, he224, he237, he240, he244, hm1, hm2, hm3, hk1, hk2, hx2, hx3, hx4, hr1, hr2, hr3, hbb, hab, hcb, hp1, hp3, hp2, hp4, hbc, hac, hcc, own_k00, own_k01, own_k02, own_k03, own_k04, own_k10, own_k11, own_k12, own_k13, own_k14, own_k20, own_k21, own_k22, own_k23, own_k24, own_k30, own_k31, own_k32, own_k33, own_k34, own_k40, own_k41, own_k42, own_k43, own_k44, own_e01, own_e02, own_e03, own_e04, own_e10, own_e12, own_e13, own_e14, own_e20, own_e21, own_e23, own_e24, own_e30, own_e31, own_e32, own_e34, own_e40, own_e41, own_e42, own_e43, ↓reduceIte]
theorem own_c7 (v : List Int32) (p q a b c e x : Int32) (g0 : own_get v p &&& 255 = a) (g1 : own_get v (p + 1) &&& 255 = b) (g2 : own_get v (p + 2) &&& 255 = c) (g3 : own_get v (p + 3) &&& 255 = e) (gx : q - p = x) (hq1 : (p + 1 = q) = (x = 1)) (hq2 : (p + 2 = q) = (x = 2)) (hq3 : (p + 3 = q) = (x = 3)) (x1 : 1 ≤ x.toInt) (a0 : 128 ≤ a.toInt) (a1 : a.toInt ≤ 255) (b0 : 0 ≤ b.toInt) (b1 : b.toInt ≤ 255) (c0 : 0 ≤ c.toInt) (c1 : c.toInt ≤ 255) (e0 : 0 ≤ e.toInt) (e1 : e.toInt ≤ 255) (y0 : 238 ≤ a.toInt) (y1 : a.toInt ≤ 239) : f2_0 v p q = f1_0 v p q := by
  have hl194 : (a < 194) = False := eq_false (by rw [own_lt, own_l194]; omega)
  have hl224 : (a < 224) = False := eq_false (by rw [own_lt, own_l224]; omega)
  have hl240 : (a < 240) = True := eq_true (by rw [own_lt, own_l240]; omega)
  have hg223 : (223 < a) = True := eq_true (by rw [own_lt, own_l223]; omega)
  have hg239 : (239 < a) = False := eq_false (by rw [own_lt, own_l239]; omega)
  have hg244 : (244 < a) = False := eq_false (by rw [own_lt, own_l244]; omega)
  have he224 : (a = 224) = False := eq_false (by rw [own_eq, own_l224]; omega)
  have he237 : (a = 237) = False := eq_false (by rw [own_eq, own_l237]; omega)
  have he240 : (a = 240) = False := eq_false (by rw [own_eq, own_l240]; omega)
  have he244 : (a = 244) = False := eq_false (by rw [own_eq, own_l244]; omega)
  have hm1 : (a &&& 224 = 192) = False := eq_false (by rw [own_n1 (by omega) a1]; omega)
  have hm2 : (a &&& 240 = 224) = True := eq_true (by rw [own_n2 (by omega) a1]; omega)
  have hm3 : (a &&& 248 = 240) = False := eq_false (by rw [own_n3 (by omega) a1]; omega)
  have em := Jvm.Kit.i32_mask a 15 (k := 4) (by decide) (by decide)
  have e9 : (own_shl (a &&& 15) 12).toInt = (a &&& 15).toInt * 2 ^ 12 := own_shlI _ _ (k := 12) (by decide) (by omega) (by omega)
  have ea : (own_shl (a &&& 15) 12 + 4095).toInt = (own_shl (a &&& 15) 12).toInt + 4095 := Jvm.Kit.i32_add (by rw [own_l4095]; omega) (by rw [own_l4095]; omega)
  have hk1 : (own_shl (a &&& 15) 12 + 4095 < 2048) = False := eq_false (by rw [own_lt, own_l2048]; omega)
  have hk2 : (1114111 < own_shl (a &&& 15) 12) = False := eq_false (by rw [own_lt, own_l1114111]; omega)
  have eb := Jvm.Kit.i32_mask b 63 (k := 6) (by decide) (by decide)
  have es : (own_shl (b &&& 63) 6).toInt = (b &&& 63).toInt * 2 ^ 6 := own_shlI _ _ (k := 6) (by decide) (by omega) (by omega)
  have ec : (own_shl (a &&& 15) 12 ||| own_shl (b &&& 63) 6).toInt = (own_shl (a &&& 15) 12).toInt + (own_shl (b &&& 63) 6).toInt := own_orI 12 (a &&& 15).toInt.toNat (by omega) (by omega) (by omega) (by omega)
  by_cases z1 : x = 1
  · skip
    have xI : x.toInt = 1 := by rw [z1]; rfl
    have hx2 : (x < 2) = True := eq_true (by rw [own_lt, own_l2]; omega)
    have hx3 : (x < 3) = True := eq_true (by rw [own_lt, own_l3]; omega)
    have hx4 : (x < 4) = True := eq_true (by rw [own_lt, own_l4]; omega)
    have hr1 : (p + 1 = q) = True := by rw [hq1]; exact eq_true (by rw [own_eq, own_l1]; omega)
    have hr2 : (p + 2 = q) = False := by rw [hq2]; exact eq_false (by rw [own_eq, own_l2]; omega)
    have hr3 : (p + 3 = q) = False := by rw [hq3]; exact eq_false (by rw [own_eq, own_l3]; omega)
    simp only [f2_146, f2_148, f2_141, f2_124, f2_92, f2_87, f2_70, f2_38, f2_0, f3_16, f3_16_2, f3_0, f1_198, f1_284, f1_286, f1_241, f1_179, f1_152, f1_126, f1_286_12, f1_241_11, f1_179_10, f1_152_9, f1_126_8, f1_286_17, f1_241_16, f1_179_15, f1_152_14, f1_126_13, f1_0, own_u8, own_u7, own_u6, own_u5, g0, g1, g2, g3, gx, own_11, own_12, own_13, hl194, hl224, hl240, hg223, hg239, hg244, he224, he237, he240, he244, hm1, hm2, hm3, hk1, hk2, hx2, hx3, hx4, hr1, hr2, hr3, own_k00, own_k01, own_k02, own_k03, own_k04, own_k10, own_k11, own_k12, own_k13, own_k14, own_k20, own_k21, own_k22, own_k23, own_k24, own_k30, own_k31, own_k32, own_k33, own_k34, own_k40, own_k41, own_k42, own_k43, own_k44, own_e01, own_e02, own_e03, own_e04, own_e10, own_e12, own_e13, own_e14, own_e20, own_e21, own_e23, own_e24, own_e30, own_e31, own_e32, own_e34, own_e40, own_e41, own_e42, own_e43, ↓reduceIte]
  by_cases z2 : x = 2
  · skip
    have xI : x.toInt = 2 := by rw [z2]; rfl
    have hx2 : (x < 2) = False := eq_false (by rw [own_lt, own_l2]; omega)
    have hx3 : (x < 3) = True := eq_true (by rw [own_lt, own_l3]; omega)
    have hx4 : (x < 4) = True := eq_true (by rw [own_lt, own_l4]; omega)
    have hr1 : (p + 1 = q) = False := by rw [hq1]; exact eq_false (by rw [own_eq, own_l1]; omega)
    have hr2 : (p + 2 = q) = True := by rw [hq2]; exact eq_true (by rw [own_eq, own_l2]; omega)
    have hr3 : (p + 3 = q) = False := by rw [hq3]; exact eq_false (by rw [own_eq, own_l3]; omega)
    have hnb := own_n4 b0 b1
    by_cases zb0 : b.toInt < 128
    · have hbb : (b &&& 192 = 128) = False := eq_false (by rw [hnb]; omega)
      have hab : (b < 128) = True := eq_true (by rw [own_lt, own_l128]; omega)
      have hcb : (191 < b) = False := eq_false (by rw [own_lt, own_l191]; omega)
      simp only [f2_146, f2_148, f2_141, f2_124, f2_92, f2_87, f2_70, f2_38, f2_0, f3_16, f3_16_2, f3_0, f1_198, f1_284, f1_286, f1_241, f1_179, f1_152, f1_126, f1_286_12, f1_241_11, f1_179_10, f1_152_9, f1_126_8, f1_286_17, f1_241_16, f1_179_15, f1_152_14, f1_126_13, f1_0, own_u8, own_u7, own_u6, own_u5, g0, g1, g2, g3, gx, own_11, own_12, own_13, hl194, hl224, hl240, hg223, hg239, hg244, he224, he237, he240, he244, hm1, hm2, hm3, hk1, hk2, hx2, hx3, hx4, hr1, hr2, hr3, hbb, hab, hcb, own_k00, own_k01, own_k02, own_k03, own_k04, own_k10, own_k11, own_k12, own_k13, own_k14, own_k20, own_k21, own_k22, own_k23, own_k24, own_k30, own_k31, own_k32, own_k33, own_k34, own_k40, own_k41, own_k42, own_k43, own_k44, own_e01, own_e02, own_e03, own_e04, own_e10, own_e12, own_e13, own_e14, own_e20, own_e21, own_e23, own_e24, own_e30, own_e31, own_e32, own_e34, own_e40, own_e41, own_e42, own_e43, ↓reduceIte]
    by_cases zb1 : 191 < b.toInt
    · have hbb : (b &&& 192 = 128) = False := eq_false (by rw [hnb]; omega)
      have hab : (b < 128) = False := eq_false (by rw [own_lt, own_l128]; omega)
      have hcb : (191 < b) = True := eq_true (by rw [own_lt, own_l191]; omega)
      simp only [f2_146, f2_148, f2_141, f2_124, f2_92, f2_87, f2_70, f2_38, f2_0, f3_16, f3_16_2, f3_0, f1_198, f1_284, f1_286, f1_241, f1_179, f1_152, f1_126, f1_286_12, f1_241_11, f1_179_10, f1_152_9, f1_126_8, f1_286_17, f1_241_16, f1_179_15, f1_152_14, f1_126_13, f1_0, own_u8, own_u7, own_u6, own_u5, g0, g1, g2, g3, gx, own_11, own_12, own_13, hl194, hl224, hl240, hg223, hg239, hg244, he224, he237, he240, he244, hm1, hm2, hm3, hk1, hk2, hx2, hx3, hx4, hr1, hr2, hr3, hbb, hab, hcb, own_k00, own_k01, own_k02, own_k03, own_k04, own_k10, own_k11, own_k12, own_k13, own_k14, own_k20, own_k21, own_k22, own_k23, own_k24, own_k30, own_k31, own_k32, own_k33, own_k34, own_k40, own_k41, own_k42, own_k43, own_k44, own_e01, own_e02, own_e03, own_e04, own_e10, own_e12, own_e13, own_e14, own_e20, own_e21, own_e23, own_e24, own_e30, own_e31, own_e32, own_e34, own_e40, own_e41, own_e42, own_e43, ↓reduceIte]
    have hbb : (b &&& 192 = 128) = True := eq_true (by rw [hnb]; omega)
    have hab : (b < 128) = False := eq_false (by rw [own_lt, own_l128]; omega)
    have hcb : (191 < b) = False := eq_false (by rw [own_lt, own_l191]; omega)
    have hp1 : (own_shl (a &&& 15) 12 ||| own_shl (b &&& 63) 6 < 2048) = False := eq_false (by rw [own_lt, own_l2048]; omega)
    have hp3 : (own_shl (a &&& 15) 12 ||| own_shl (b &&& 63) 6 < 55296) = False := eq_false (by rw [own_lt, own_l55296]; omega)
    have hp2 : (1114111 < own_shl (a &&& 15) 12 ||| own_shl (b &&& 63) 6) = False := eq_false (by rw [own_lt, own_l1114111]; omega)
    have hp4 : (57343 < own_shl (a &&& 15) 12 ||| own_shl (b &&& 63) 6) = True := eq_true (by rw [own_lt, own_l57343]; omega)
    simp only [f2_146, f2_148, f2_141, f2_124, f2_92, f2_87, f2_70, f2_38, f2_0, f3_16, f3_16_2, f3_0, f1_198, f1_284, f1_286, f1_241, f1_179, f1_152, f1_126, f1_286_12, f1_241_11, f1_179_10, f1_152_9, f1_126_8, f1_286_17, f1_241_16, f1_179_15, f1_152_14, f1_126_13, f1_0, own_u8, own_u7, own_u6, own_u5, g0, g1, g2, g3, gx, own_11, own_12, own_13, hl194, hl224, hl240, hg223, hg239, hg244, he224, he237, he240, he244, hm1, hm2, hm3, hk1, hk2, hx2, hx3, hx4, hr1, hr2, hr3, hbb, hab, hcb, hp1, hp3, hp2, hp4, own_k00, own_k01, own_k02, own_k03, own_k04, own_k10, own_k11, own_k12, own_k13, own_k14, own_k20, own_k21, own_k22, own_k23, own_k24, own_k30, own_k31, own_k32, own_k33, own_k34, own_k40, own_k41, own_k42, own_k43, own_k44, own_e01, own_e02, own_e03, own_e04, own_e10, own_e12, own_e13, own_e14, own_e20, own_e21, own_e23, own_e24, own_e30, own_e31, own_e32, own_e34, own_e40, own_e41, own_e42, own_e43, ↓reduceIte]
  by_cases z3 : x = 3
  · skip
    have xI : x.toInt = 3 := by rw [z3]; rfl
    have hx2 : (x < 2) = False := eq_false (by rw [own_lt, own_l2]; omega)
    have hx3 : (x < 3) = False := eq_false (by rw [own_lt, own_l3]; omega)
    have hx4 : (x < 4) = True := eq_true (by rw [own_lt, own_l4]; omega)
    have hr1 : (p + 1 = q) = False := by rw [hq1]; exact eq_false (by rw [own_eq, own_l1]; omega)
    have hr2 : (p + 2 = q) = False := by rw [hq2]; exact eq_false (by rw [own_eq, own_l2]; omega)
    have hr3 : (p + 3 = q) = True := by rw [hq3]; exact eq_true (by rw [own_eq, own_l3]; omega)
    have hnb := own_n4 b0 b1
    by_cases zb0 : b.toInt < 128
    · have hbb : (b &&& 192 = 128) = False := eq_false (by rw [hnb]; omega)
      have hab : (b < 128) = True := eq_true (by rw [own_lt, own_l128]; omega)
      have hcb : (191 < b) = False := eq_false (by rw [own_lt, own_l191]; omega)
      simp only [f2_146, f2_148, f2_141, f2_124, f2_92, f2_87, f2_70, f2_38, f2_0, f3_16, f3_16_2, f3_0, f1_198, f1_284, f1_286, f1_241, f1_179, f1_152, f1_126, f1_286_12, f1_241_11, f1_179_10, f1_152_9, f1_126_8, f1_286_17, f1_241_16, f1_179_15, f1_152_14, f1_126_13, f1_0, own_u8, own_u7, own_u6, own_u5, g0, g1, g2, g3, gx, own_11, own_12, own_13, hl194, hl224, hl240, hg223, hg239, hg244, he224, he237, he240, he244, hm1, hm2, hm3, hk1, hk2, hx2, hx3, hx4, hr1, hr2, hr3, hbb, hab, hcb, own_k00, own_k01, own_k02, own_k03, own_k04, own_k10, own_k11, own_k12, own_k13, own_k14, own_k20, own_k21, own_k22, own_k23, own_k24, own_k30, own_k31, own_k32, own_k33, own_k34, own_k40, own_k41, own_k42, own_k43, own_k44, own_e01, own_e02, own_e03, own_e04, own_e10, own_e12, own_e13, own_e14, own_e20, own_e21, own_e23, own_e24, own_e30, own_e31, own_e32, own_e34, own_e40, own_e41, own_e42, own_e43, ↓reduceIte]
    by_cases zb1 : 191 < b.toInt
    · have hbb : (b &&& 192 = 128) = False := eq_false (by rw [hnb]; omega)
      have hab : (b < 128) = False := eq_false (by rw [own_lt, own_l128]; omega)
      have hcb : (191 < b) = True := eq_true (by rw [own_lt, own_l191]; omega)
      simp only [f2_146, f2_148, f2_141, f2_124, f2_92, f2_87, f2_70, f2_38, f2_0, f3_16, f3_16_2, f3_0, f1_198, f1_284, f1_286, f1_241, f1_179, f1_152, f1_126, f1_286_12, f1_241_11, f1_179_10, f1_152_9, f1_126_8, f1_286_17, f1_241_16, f1_179_15, f1_152_14, f1_126_13, f1_0, own_u8, own_u7, own_u6, own_u5, g0, g1, g2, g3, gx, own_11, own_12, own_13, hl194, hl224, hl240, hg223, hg239, hg244, he224, he237, he240, he244, hm1, hm2, hm3, hk1, hk2, hx2, hx3, hx4, hr1, hr2, hr3, hbb, hab, hcb, own_k00, own_k01, own_k02, own_k03, own_k04, own_k10, own_k11, own_k12, own_k13, own_k14, own_k20, own_k21, own_k22, own_k23, own_k24, own_k30, own_k31, own_k32, own_k33, own_k34, own_k40, own_k41, own_k42, own_k43, own_k44, own_e01, own_e02, own_e03, own_e04, own_e10, own_e12, own_e13, own_e14, own_e20, own_e21, own_e23, own_e24, own_e30, own_e31, own_e32, own_e34, own_e40, own_e41, own_e42, own_e43, ↓reduceIte]
    have hbb : (b &&& 192 = 128) = True := eq_true (by rw [hnb]; omega)
    have hab : (b < 128) = False := eq_false (by rw [own_lt, own_l128]; omega)
    have hcb : (191 < b) = False := eq_false (by rw [own_lt, own_l191]; omega)
    have hp1 : (own_shl (a &&& 15) 12 ||| own_shl (b &&& 63) 6 < 2048) = False := eq_false (by rw [own_lt, own_l2048]; omega)
    have hp3 : (own_shl (a &&& 15) 12 ||| own_shl (b &&& 63) 6 < 55296) = False := eq_false (by rw [own_lt, own_l55296]; omega)
    have hp2 : (1114111 < own_shl (a &&& 15) 12 ||| own_shl (b &&& 63) 6) = False := eq_false (by rw [own_lt, own_l1114111]; omega)
    have hp4 : (57343 < own_shl (a &&& 15) 12 ||| own_shl (b &&& 63) 6) = True := eq_true (by rw [own_lt, own_l57343]; omega)
    have hnc := own_n4 c0 c1
    by_cases zc0 : c.toInt < 128
    · have hbc : (c &&& 192 = 128) = False := eq_false (by rw [hnc]; omega)
      have hac : (c < 128) = True := eq_true (by rw [own_lt, own_l128]; omega)
      have hcc : (191 < c) = False := eq_false (by rw [own_lt, own_l191]; omega)
      simp only [f2_146, f2_148, f2_141, f2_124, f2_92, f2_87, f2_70, f2_38, f2_0, f3_16, f3_16_2, f3_0, f1_198, f1_284, f1_286, f1_241, f1_179, f1_152, f1_126, f1_286_12, f1_241_11, f1_179_10, f1_152_9, f1_126_8, f1_286_17, f1_241_16, f1_179_15, f1_152_14, f1_126_13, f1_0, own_u8, own_u7, own_u6, own_u5, g0, g1, g2, g3, gx, own_11, own_12, own_13, hl194, hl224, hl240, hg223, hg239, hg244, he224, he237, he240, he244, hm1, hm2, hm3, hk1, hk2, hx2, hx3, hx4, hr1, hr2, hr3, hbb, hab, hcb, hp1, hp3, hp2, hp4, hbc, hac, hcc, own_k00, own_k01, own_k02, own_k03, own_k04, own_k10, own_k11, own_k12, own_k13, own_k14, own_k20, own_k21, own_k22, own_k23, own_k24, own_k30, own_k31, own_k32, own_k33, own_k34, own_k40, own_k41, own_k42, own_k43, own_k44, own_e01, own_e02, own_e03, own_e04, own_e10, own_e12, own_e13, own_e14, own_e20, own_e21, own_e23, own_e24, own_e30, own_e31, own_e32, own_e34, own_e40, own_e41, own_e42, own_e43, ↓reduceIte]
    by_cases zc1 : 191 < c.toInt
    · have hbc : (c &&& 192 = 128) = False := eq_false (by rw [hnc]; omega)
      have hac : (c < 128) = False := eq_false (by rw [own_lt, own_l128]; omega)
      have hcc : (191 < c) = True := eq_true (by rw [own_lt, own_l191]; omega)
      simp only [f2_146, f2_148, f2_141, f2_124, f2_92, f2_87, f2_70, f2_38, f2_0, f3_16, f3_16_2, f3_0, f1_198, f1_284, f1_286, f1_241, f1_179, f1_152, f1_126, f1_286_12, f1_241_11, f1_179_10, f1_152_9, f1_126_8, f1_286_17, f1_241_16, f1_179_15, f1_152_14, f1_126_13, f1_0, own_u8, own_u7, own_u6, own_u5, g0, g1, g2, g3, gx, own_11, own_12, own_13, hl194, hl224, hl240, hg223, hg239, hg244, he224, he237, he240, he244, hm1, hm2, hm3, hk1, hk2, hx2, hx3, hx4, hr1, hr2, hr3, hbb, hab, hcb, hp1, hp3, hp2, hp4, hbc, hac, hcc, own_k00, own_k01, own_k02, own_k03, own_k04, own_k10, own_k11, own_k12, own_k13, own_k14, own_k20, own_k21, own_k22, own_k23, own_k24, own_k30, own_k31, own_k32, own_k33, own_k34, own_k40, own_k41, own_k42, own_k43, own_k44, own_e01, own_e02, own_e03, own_e04, own_e10, own_e12, own_e13, own_e14, own_e20, own_e21, own_e23, own_e24, own_e30, own_e31, own_e32, own_e34, own_e40, own_e41, own_e42, own_e43, ↓reduceIte]
    have hbc : (c &&& 192 = 128) = True := eq_true (by rw [hnc]; omega)
    have hac : (c < 128) = False := eq_false (by rw [own_lt, own_l128]; omega)
    have hcc : (191 < c) = False := eq_false (by rw [own_lt, own_l191]; omega)
    simp only [f2_146, f2_148, f2_141, f2_124, f2_92, f2_87, f2_70, f2_38, f2_0, f3_16, f3_16_2, f3_0, f1_198, f1_284, f1_286, f1_241, f1_179, f1_152, f1_126, f1_286_12, f1_241_11, f1_179_10, f1_152_9, f1_126_8, f1_286_17, f1_241_16, f1_179_15, f1_152_14, f1_126_13, f1_0, own_u8, own_u7, own_u6, own_u5, g0, g1, g2, g3, gx, own_11, own_12, own_13, hl194, hl224, hl240, hg223, hg239, hg244, he224, he237, he240, he244, hm1, hm2, hm3, hk1, hk2, hx2, hx3, hx4, hr1, hr2, hr3, hbb, hab, hcb, hp1, hp3, hp2, hp4, hbc, hac, hcc, own_k00, own_k01, own_k02, own_k03, own_k04, own_k10, own_k11, own_k12, own_k13, own_k14, own_k20, own_k21, own_k22, own_k23, own_k24, own_k30, own_k31, own_k32, own_k33, own_k34, own_k40, own_k41, own_k42, own_k43, own_k44, own_e01, own_e02, own_e03, own_e04, own_e10, own_e12, own_e13, own_e14, own_e20, own_e21, own_e23, own_e24, own_e30, own_e31, own_e32, own_e34, own_e40, own_e41, own_e42, own_e43, ↓reduceIte]
  have xI : 4 ≤ x.toInt := by rw [own_eq, own_l1] at z1; rw [own_eq, own_l2] at z2; rw [own_eq, own_l3] at z3; omega
  have hx2 : (x < 2) = False := eq_false (by rw [own_lt, own_l2]; omega)
  have hx3 : (x < 3) = False := eq_false (by rw [own_lt, own_l3]; omega)
  have hx4 : (x < 4) = False := eq_false (by rw [own_lt, own_l4]; omega)
  have hr1 : (p + 1 = q) = False := by rw [hq1]; exact eq_false (by rw [own_eq, own_l1]; omega)
  have hr2 : (p + 2 = q) = False := by rw [hq2]; exact eq_false (by rw [own_eq, own_l2]; omega)
  have hr3 : (p + 3 = q) = False := by rw [hq3]; exact eq_false (by rw [own_eq, own_l3]; omega)
  have hnb := own_n4 b0 b1
  by_cases zb0 : b.toInt < 128
  · have hbb : (b &&& 192 = 128) = False := eq_false (by rw [hnb]; omega)
    have hab : (b < 128) = True := eq_true (by rw [own_lt, own_l128]; omega)
    have hcb : (191 < b) = False := eq_false (by rw [own_lt, own_l191]; omega)
    simp only [f2_146, f2_148, f2_141, f2_124, f2_92, f2_87, f2_70, f2_38, f2_0, f3_16, f3_16_2, f3_0, f1_198, f1_284, f1_286, f1_241, f1_179, f1_152, f1_126, f1_286_12, f1_241_11, f1_179_10, f1_152_9, f1_126_8, f1_286_17, f1_241_16, f1_179_15, f1_152_14, f1_126_13, f1_0, own_u8, own_u7, own_u6, own_u5, g0, g1, g2, g3, gx, own_11, own_12, own_13, hl194, hl224, hl240, hg223, hg239, hg244, he224, he237, he240, he244, hm1, hm2, hm3, hk1, hk2, hx2, hx3, hx4, hr1, hr2, hr3, hbb, hab, hcb, own_k00, own_k01, own_k02, own_k03, own_k04, own_k10, own_k11, own_k12, own_k13, own_k14, own_k20, own_k21, own_k22, own_k23, own_k24, own_k30, own_k31, own_k32, own_k33, own_k34, own_k40, own_k41, own_k42, own_k43, own_k44, own_e01, own_e02, own_e03, own_e04, own_e10, own_e12, own_e13, own_e14, own_e20, own_e21, own_e23, own_e24, own_e30, own_e31, own_e32, own_e34, own_e40, own_e41, own_e42, own_e43, ↓reduceIte]
  by_cases zb1 : 191 < b.toInt
  · have hbb : (b &&& 192 = 128) = False := eq_false (by rw [hnb]; omega)
    have hab : (b < 128) = False := eq_false (by rw [own_lt, own_l128]; omega)
    have hcb : (191 < b) = True := eq_true (by rw [own_lt, own_l191]; omega)
    simp only [f2_146, f2_148, f2_141, f2_124, f2_92, f2_87, f2_70, f2_38, f2_0, f3_16, f3_16_2, f3_0, f1_198, f1_284, f1_286, f1_241, f1_179, f1_152, f1_126, f1_286_12, f1_241_11, f1_179_10, f1_152_9, f1_126_8, f1_286_17, f1_241_16, f1_179_15, f1_152_14, f1_126_13, f1_0, own_u8, own_u7, own_u6, own_u5, g0, g1, g2, g3, gx, own_11, own_12, own_13, hl194, hl224, hl240, hg223, hg239, hg244, he224, he237, he240, he244, hm1, hm2, hm3, hk1, hk2, hx2, hx3, hx4, hr1, hr2, hr3, hbb, hab, hcb, own_k00, own_k01, own_k02, own_k03, own_k04, own_k10, own_k11, own_k12, own_k13, own_k14, own_k20, own_k21, own_k22, own_k23, own_k24, own_k30, own_k31, own_k32, own_k33, own_k34, own_k40, own_k41, own_k42, own_k43, own_k44, own_e01, own_e02, own_e03, own_e04, own_e10, own_e12, own_e13, own_e14, own_e20, own_e21, own_e23, own_e24, own_e30, own_e31, own_e32, own_e34, own_e40, own_e41, own_e42, own_e43, ↓reduceIte]
  have hbb : (b &&& 192 = 128) = True := eq_true (by rw [hnb]; omega)
  have hab : (b < 128) = False := eq_false (by rw [own_lt, own_l128]; omega)
  have hcb : (191 < b) = False := eq_false (by rw [own_lt, own_l191]; omega)
  have hp1 : (own_shl (a &&& 15) 12 ||| own_shl (b &&& 63) 6 < 2048) = False := eq_false (by rw [own_lt, own_l2048]; omega)
  have hp3 : (own_shl (a &&& 15) 12 ||| own_shl (b &&& 63) 6 < 55296) = False := eq_false (by rw [own_lt, own_l55296]; omega)
  have hp2 : (1114111 < own_shl (a &&& 15) 12 ||| own_shl (b &&& 63) 6) = False := eq_false (by rw [own_lt, own_l1114111]; omega)
  have hp4 : (57343 < own_shl (a &&& 15) 12 ||| own_shl (b &&& 63) 6) = True := eq_true (by rw [own_lt, own_l57343]; omega)
  have hnc := own_n4 c0 c1
  by_cases zc0 : c.toInt < 128
  · have hbc : (c &&& 192 = 128) = False := eq_false (by rw [hnc]; omega)
    have hac : (c < 128) = True := eq_true (by rw [own_lt, own_l128]; omega)
    have hcc : (191 < c) = False := eq_false (by rw [own_lt, own_l191]; omega)
    simp only [f2_146, f2_148, f2_141, f2_124, f2_92, f2_87, f2_70, f2_38, f2_0, f3_16, f3_16_2, f3_0, f1_198, f1_284, f1_286, f1_241, f1_179, f1_152, f1_126, f1_286_12, f1_241_11, f1_179_10, f1_152_9, f1_126_8, f1_286_17, f1_241_16, f1_179_15, f1_152_14, f1_126_13, f1_0, own_u8, own_u7, own_u6, own_u5, g0, g1, g2, g3, gx, own_11, own_12, own_13, hl194, hl224, hl240, hg223, hg239, hg244, he224, he237, he240, he244, hm1, hm2, hm3, hk1, hk2, hx2, hx3, hx4, hr1, hr2, hr3, hbb, hab, hcb, hp1, hp3, hp2, hp4, hbc, hac, hcc, own_k00, own_k01, own_k02, own_k03, own_k04, own_k10, own_k11, own_k12, own_k13, own_k14, own_k20, own_k21, own_k22, own_k23, own_k24, own_k30, own_k31, own_k32, own_k33, own_k34, own_k40, own_k41, own_k42, own_k43, own_k44, own_e01, own_e02, own_e03, own_e04, own_e10, own_e12, own_e13, own_e14, own_e20, own_e21, own_e23, own_e24, own_e30, own_e31, own_e32, own_e34, own_e40, own_e41, own_e42, own_e43, ↓reduceIte]
  by_cases zc1 : 191 < c.toInt
  · have hbc : (c &&& 192 = 128) = False := eq_false (by rw [hnc]; omega)
    have hac : (c < 128) = False := eq_false (by rw [own_lt, own_l128]; omega)
    have hcc : (191 < c) = True := eq_true (by rw [own_lt, own_l191]; omega)
    simp only [f2_146, f2_148, f2_141, f2_124, f2_92, f2_87, f2_70, f2_38, f2_0, f3_16, f3_16_2, f3_0, f1_198, f1_284, f1_286, f1_241, f1_179, f1_152, f1_126, f1_286_12, f1_241_11, f1_179_10, f1_152_9, f1_126_8, f1_286_17, f1_241_16, f1_179_15, f1_152_14, f1_126_13, f1_0, own_u8, own_u7, own_u6, own_u5, g0, g1, g2, g3, gx, own_11, own_12, own_13, hl194, hl224, hl240, hg223, hg239, hg244, he224, he237, he240, he244, hm1, hm2, hm3, hk1, hk2, hx2, hx3, hx4, hr1, hr2, hr3, hbb, hab, hcb, hp1, hp3, hp2, hp4, hbc, hac, hcc, own_k00, own_k01, own_k02, own_k03, own_k04, own_k10, own_k11, own_k12, own_k13, own_k14, own_k20, own_k21, own_k22, own_k23, own_k24, own_k30, own_k31, own_k32, own_k33, own_k34, own_k40, own_k41, own_k42, own_k43, own_k44, own_e01, own_e02, own_e03, own_e04, own_e10, own_e12, own_e13, own_e14, own_e20, own_e21, own_e23, own_e24, own_e30, own_e31, own_e32, own_e34, own_e40, own_e41, own_e42, own_e43, ↓reduceIte]
  have hbc : (c &&& 192 = 128) = True := eq_true (by rw [hnc]; omega)
  have hac : (c < 128) = False := eq_false (by rw [own_lt, own_l128]; omega)
  have hcc : (191 < c) = False := eq_false (by rw [own_lt, own_l191]; omega)
  simp only [f2_146, f2_148, f2_141, f2_124, f2_92, f2_87, f2_70, f2_38, f2_0, f3_16, f3_16_2, f3_0, f1_198, f1_284, f1_286, f1_241, f1_179, f1_152, f1_126, f1_286_12, f1_241_11, f1_179_10, f1_152_9, f1_126_8, f1_286_17, f1_241_16, f1_179_15, f1_152_14, f1_126_13, f1_0, own_u8, own_u7, own_u6, own_u5, g0, g1, g2, g3, gx, own_11, own_12, own_13, hl194, hl224, hl240, hg223, hg239, hg244, he224, he237, he240, he244, hm1, hm2, hm3, hk1, hk2, hx2, hx3, hx4, hr1, hr2, hr3, hbb, hab, hcb, hp1, hp3, hp2, hp4, hbc, hac, hcc, own_k00, own_k01, own_k02, own_k03, own_k04, own_k10, own_k11, own_k12, own_k13, own_k14, own_k20, own_k21, own_k22, own_k23, own_k24, own_k30, own_k31, own_k32, own_k33, own_k34, own_k40, own_k41, own_k42, own_k43, own_k44, own_e01, own_e02, own_e03, own_e04, own_e10, own_e12, own_e13, own_e14, own_e20, own_e21, own_e23, own_e24, own_e30, own_e31, own_e32, own_e34, own_e40, own_e41, own_e42, own_e43, ↓reduceIte]
theorem own_c8 (v : List Int32) (p q a b c e x : Int32) (g0 : own_get v p &&& 255 = a) (g1 : own_get v (p + 1) &&& 255 = b) (g2 : own_get v (p + 2) &&& 255 = c) (g3 : own_get v (p + 3) &&& 255 = e) (gx : q - p = x) (hq1 : (p + 1 = q) = (x = 1)) (hq2 : (p + 2 = q) = (x = 2)) (hq3 : (p + 3 = q) = (x = 3)) (x1 : 1 ≤ x.toInt) (a0 : 128 ≤ a.toInt) (a1 : a.toInt ≤ 255) (b0 : 0 ≤ b.toInt) (b1 : b.toInt ≤ 255) (c0 : 0 ≤ c.toInt) (c1 : c.toInt ≤ 255) (e0 : 0 ≤ e.toInt) (e1 : e.toInt ≤ 255) (y0 : 240 ≤ a.toInt) (y1 : a.toInt ≤ 240) : f2_0 v p q = f1_0 v p q := by
  have hl194 : (a < 194) = False := eq_false (by rw [own_lt, own_l194]; omega)
  have hl224 : (a < 224) = False := eq_false (by rw [own_lt, own_l224]; omega)
  have hl240 : (a < 240) = False := eq_false (by rw [own_lt, own_l240]; omega)
  have hg223 : (223 < a) = True := eq_true (by rw [own_lt, own_l223]; omega)
  have hg239 : (239 < a) = True := eq_true (by rw [own_lt, own_l239]; omega)
  have hg244 : (244 < a) = False := eq_false (by rw [own_lt, own_l244]; omega)
  have he224 : (a = 224) = False := eq_false (by rw [own_eq, own_l224]; omega)
  have he237 : (a = 237) = False := eq_false (by rw [own_eq, own_l237]; omega)
  have he240 : (a = 240) = True := eq_true (by rw [own_eq, own_l240]; omega)
  have he244 : (a = 244) = False := eq_false (by rw [own_eq, own_l244]; omega)
  have hm1 : (a &&& 224 = 192) = False := eq_false (by rw [own_n1 (by omega) a1]; omega)
  have hm2 : (a &&& 240 = 224) = False := eq_false (by rw [own_n2 (by omega) a1]; omega)
  have hm3 : (a &&& 248 = 240) = True := eq_true (by rw [own_n3 (by omega) a1]; omega)
  have em := Jvm.Kit.i32_mask a 7 (k := 3) (by decide) (by decide)
  have e9 : (own_shl (a &&& 7) 18).toInt = (a &&& 7).toInt * 2 ^ 18 := own_shlI _ _ (k := 18) (by decide) (by omega) (by omega)
  have ea : (own_shl (a &&& 7) 18 + 262143).toInt = (own_shl (a &&& 7) 18).toInt + 262143 := Jvm.Kit.i32_add (by rw [own_l262143]; omega) (by rw [own_l262143]; omega)
  have hk1 : (own_shl (a &&& 7) 18 + 262143 < 65536) = False := eq_false (by rw [own_lt, own_l65536]; omega)
  have hk2 : (1114111 < own_shl (a &&& 7) 18) = False := eq_false (by rw [own_lt, own_l1114111]; omega)
  have eb := Jvm.Kit.i32_mask b 63 (k := 6) (by decide) (by decide)
  have es : (own_shl (b &&& 63) 12).toInt = (b &&& 63).toInt * 2 ^ 12 := own_shlI _ _ (k := 12) (by decide) (by omega) (by omega)
  have ec : (own_shl (a &&& 7) 18 ||| own_shl (b &&& 63) 12).toInt = (own_shl (a &&& 7) 18).toInt + (own_shl (b &&& 63) 12).toInt := own_orI 18 (a &&& 7).toInt.toNat (by omega) (by omega) (by omega) (by omega)
  by_cases z1 : x = 1
  · skip
    have xI : x.toInt = 1 := by rw [z1]; rfl
    have hx2 : (x < 2) = True := eq_true (by rw [own_lt, own_l2]; omega)
    have hx3 : (x < 3) = True := eq_true (by rw [own_lt, own_l3]; omega)
    have hx4 : (x < 4) = True := eq_true (by rw [own_lt, own_l4]; omega)
    have hr1 : (p + 1 = q) = True := by rw [hq1]; exact eq_true (by rw [own_eq, own_l1]; omega)
    have hr2 : (p + 2 = q) = False := by rw [hq2]; exact eq_false (by rw [own_eq, own_l2]; omega)
    have hr3 : (p + 3 = q) = False := by rw [hq3]; exact eq_false (by rw [own_eq, own_l3]; omega)
    simp only [f2_146, f2_148, f2_141, f2_124, f2_92, f2_87, f2_70, f2_38, f2_0, f3_16, f3_16_2, f3_0, f1_198, f1_284, f1_286, f1_241, f1_179, f1_152, f1_126, f1_286_12, f1_241_11, f1_179_10, f1_152_9, f1_126_8, f1_286_17, f1_241_16, f1_179_15, f1_152_14, f1_126_13, f1_0, own_u8, own_u7, own_u6, own_u5, g0, g1, g2, g3, gx, own_11, own_12, own_13, hl194, hl224, hl240, hg223, hg239, hg244, he224, he237, he240, he244, hm1, hm2, hm3, hk1, hk2, hx2, hx3, hx4, hr1, hr2, hr3, own_k00, own_k01, own_k02, own_k03, own_k04, own_k10, own_k11, own_k12, own_k13, own_k14, own_k20, own_k21, own_k22, own_k23, own_k24, own_k30, own_k31, own_k32, own_k33, own_k34, own_k40, own_k41, own_k42, own_k43, own_k44, own_e01, own_e02, own_e03, own_e04, own_e10, own_e12, own_e13, own_e14, own_e20, own_e21, own_e23, own_e24, own_e30, own_e31, own_e32, own_e34, own_e40, own_e41, own_e42, own_e43, ↓reduceIte]
  by_cases z2 : x = 2
  · skip
    have xI : x.toInt = 2 := by rw [z2]; rfl
    have hx2 : (x < 2) = False := eq_false (by rw [own_lt, own_l2]; omega)
    have hx3 : (x < 3) = True := eq_true (by rw [own_lt, own_l3]; omega)
    have hx4 : (x < 4) = True := eq_true (by rw [own_lt, own_l4]; omega)
    have hr1 : (p + 1 = q) = False := by rw [hq1]; exact eq_false (by rw [own_eq, own_l1]; omega)
    have hr2 : (p + 2 = q) = True := by rw [hq2]; exact eq_true (by rw [own_eq, own_l2]; omega)
    have hr3 : (p + 3 = q) = False := by rw [hq3]; exact eq_false (by rw [own_eq, own_l3]; omega)
    have hnb := own_n4 b0 b1
    by_cases zb0 : b.toInt < 128
    · have hbb : (b &&& 192 = 128) = False := eq_false (by rw [hnb]; omega)
      have hab : (b < 144) = True := eq_true (by rw [own_lt, own_l144]; omega)
      have hcb : (191 < b) = False := eq_false (by rw [own_lt, own_l191]; omega)
      simp only [f2_146, f2_148, f2_141, f2_124, f2_92, f2_87, f2_70, f2_38, f2_0, f3_16, f3_16_2, f3_0, f1_198, f1_284, f1_286, f1_241, f1_179, f1_152, f1_126, f1_286_12, f1_241_11, f1_179_10, f1_152_9, f1_126_8, f1_286_17, f1_241_16, f1_179_15, f1_152_14, f1_126_13, f1_0, own_u8, own_u7, own_u6, own_u5, g0, g1, g2, g3, gx, own_11, own_12, own_13, hl194, hl224, hl240, hg223, hg239, hg244, he224, he237, he240, he244, hm1, hm2, hm3, hk1, hk2, hx2, hx3, hx4, hr1, hr2, hr3, hbb, hab, hcb, own_k00, own_k01, own_k02, own_k03, own_k04, own_k10, own_k11, own_k12, own_k13, own_k14, own_k20, own_k21, own_k22, own_k23, own_k24, own_k30, own_k31, own_k32, own_k33, own_k34, own_k40, own_k41, own_k42, own_k43, own_k44, own_e01, own_e02, own_e03, own_e04, own_e10, own_e12, own_e13, own_e14, own_e20, own_e21, own_e23, own_e24, own_e30, own_e31, own_e32, own_e34, own_e40, own_e41, own_e42, own_e43, ↓reduceIte]
    by_cases zb1 : 191 < b.toInt
    · have hbb : (b &&& 192 = 128) = False := eq_false (by rw [hnb]; omega)
      have hab : (b < 144) = False := eq_false (by rw [own_lt, own_l144]; omega)
      have hcb : (191 < b) = True := eq_true (by rw [own_lt, own_l191]; omega)
      simp only [f2_146, f2_148, f2_141, f2_124, f2_92, f2_87, f2_70, f2_38, f2_0, f3_16, f3_16_2, f3_0, f1_198, f1_284, f1_286, f1_241, f1_179, f1_152, f1_126, f1_286_12, f1_241_11, f1_179_10, f1_152_9, f1_126_8, f1_286_17, f1_241_16, f1_179_15, f1_152_14, f1_126_13, f1_0, own_u8, own_u7, own_u6, own_u5, g0, g1, g2, g3, gx, own_11, own_12, own_13, hl194, hl224, hl240, hg223, hg239, hg244, he224, he237, he240, he244, hm1, hm2, hm3, hk1, hk2, hx2, hx3, hx4, hr1, hr2, hr3, hbb, hab, hcb, own_k00, own_k01, own_k02, own_k03, own_k04, own_k10, own_k11, own_k12, own_k13, own_k14, own_k20, own_k21, own_k22, own_k23, own_k24, own_k30, own_k31, own_k32, own_k33, own_k34, own_k40, own_k41, own_k42, own_k43, own_k44, own_e01, own_e02, own_e03, own_e04, own_e10, own_e12, own_e13, own_e14, own_e20, own_e21, own_e23, own_e24, own_e30, own_e31, own_e32, own_e34, own_e40, own_e41, own_e42, own_e43, ↓reduceIte]
    by_cases zb2 : b.toInt < 144
    · have hbb : (b &&& 192 = 128) = True := eq_true (by rw [hnb]; omega)
      have hab : (b < 144) = True := eq_true (by rw [own_lt, own_l144]; omega)
      have hcb : (191 < b) = False := eq_false (by rw [own_lt, own_l191]; omega)
      have hp1 : (own_shl (a &&& 7) 18 ||| own_shl (b &&& 63) 12 < 65536) = True := eq_true (by rw [own_lt, own_l65536]; omega)
      have hp2 : (1114111 < own_shl (a &&& 7) 18 ||| own_shl (b &&& 63) 12) = False := eq_false (by rw [own_lt, own_l1114111]; omega)
      simp only [f2_146, f2_148, f2_141, f2_124, f2_92, f2_87, f2_70, f2_38, f2_0, f3_16, f3_16_2, f3_0, f1_198, f1_284, f1_286, f1_241, f1_179, f1_152, f1_126, f1_286_12, f1_241_11, f1_179_10, f1_152_9, f1_126_8, f1_286_17, f1_241_16, f1_179_15, f1_152_14, f1_126_13, f1_0, own_u8, own_u7, own_u6, own_u5, g0, g1, g2, g3, gx, own_11, own_12, own_13, hl194, hl224, hl240, hg223, hg239, hg244, he224, he237, he240, he244, hm1, hm2, hm3, hk1, hk2, hx2, hx3, hx4, hr1, hr2, hr3, hbb, hab, hcb, hp1, hp2, own_k00, own_k01, own_k02, own_k03, own_k04, own_k10, own_k11, own_k12, own_k13, own_k14, own_k20, own_k21, own_k22, own_k23, own_k24, own_k30, own_k31, own_k32, own_k33, own_k34, own_k40, own_k41, own_k42, own_k43, own_k44, own_e01, own_e02, own_e03, own_e04, own_e10, own_e12, own_e13, own_e14, own_e20, own_e21, own_e23, own_e24, own_e30, own_e31, own_e32, own_e34, own_e40, own_e41, own_e42, own_e43, ↓reduceIte]
    have hbb : (b &&& 192 = 128) = True := eq_true (by rw [hnb]; omega)
    have hab : (b < 144) = False := eq_false (by rw [own_lt, own_l144]; omega)
    have hcb : (191 < b) = False := eq_false (by rw [own_lt, own_l191]; omega)
    have hp1 : (own_shl (a &&& 7) 18 ||| own_shl (b &&& 63) 12 < 65536) = False := eq_false (by rw [own_lt, own_l65536]; omega)
    have hp3 : (own_shl (a &&& 7) 18 ||| own_shl (b &&& 63) 12 < 55296) = False := eq_false (by rw [own_lt, own_l55296]; omega)
    have hp2 : (1114111 < own_shl (a &&& 7) 18 ||| own_shl (b &&& 63) 12) = False := eq_false (by rw [own_lt, own_l1114111]; omega)
    have hp4 : (57343 < own_shl (a &&& 7) 18 ||| own_shl (b &&& 63) 12) = True := eq_true (by rw [own_lt, own_l57343]; omega)
    simp only [f2_146, f2_148, f2_141, f2_124, f2_92, f2_87, f2_70, f2_38, f2_0, f3_16, f3_16_2, f3_0, f1_198, f1_284, f1_286, f1_241, f1_179, f1_152, f1_126, f1_286_12, f1_241_11, f1_179_10, f1_152_9, f1_126_8, f1_286_17, f1_241_16, f1_179_15, f1_152_14, f1_126_13, f1_0, own_u8, own_u7, own_u6, own_u5, g0, g1, g2, g3, gx, own_11, own_12, own_13, hl194, hl224, hl240, hg223, hg239, hg244, he224, he237, he240, he244, hm1, hm2, hm3, hk1, hk2, hx2, hx3, hx4, hr1, hr2, hr3, hbb, hab, hcb, hp1, hp3, hp2, hp4, own_k00, own_k01, own_k02, own_k03, own_k04, own_k10, own_k11, own_k12, own_k13, own_k14, own_k20, own_k21, own_k22, own_k23, own_k24, own_k30, own_k31, own_k32, own_k33, own_k34, own_k40, own_k41, own_k42, own_k43, own_k44, own_e01, own_e02, own_e03, own_e04, own_e10, own_e12, own_e13, own_e14, own_e20, own_e21, own_e23, own_e24, own_e30, own_e31, own_e32, own_e34, own_e40, own_e41, own_e42, own_e43, ↓reduceIte]
  by_cases z3 : x = 3
  · skip
    have xI : x.toInt = 3 := by rw [z3]; rfl
    have hx2 : (x < 2) = False := eq_false (by rw [own_lt, own_l2]; omega)
    have hx3 : (x < 3) = False := eq_false (by rw [own_lt, own_l3]; omega)
    have hx4 : (x < 4) = True := eq_true (by rw [own_lt, own_l4]; omega)
    have hr1 : (p + 1 = q) = False := by rw [hq1]; exact eq_false (by rw [own_eq, own_l1]; omega)
    have hr2 : (p + 2 = q) = False := by rw [hq2]; exact eq_false (by rw [own_eq, own_l2]; omega)
    have hr3 : (p + 3 = q) = True := by rw [hq3]; exact eq_true (by rw [own_eq, own_l3]; omega)
    have hnb := own_n4 b0 b1
    by_cases zb0 : b.toInt < 128
    · have hbb : (b &&& 192 = 128) = False := eq_false (by rw [hnb]; omega)
      have hab : (b < 144) = True := eq_true (by rw [own_lt, own_l144]; omega)
      have hcb : (191 < b) = False := eq_false (by rw [own_lt, own_l191]; omega)
      simp only [f2_146, f2_148, f2_141, f2_124, f2_92, f2_87, f2_70, f2_38, f2_0, f3_16, f3_16_2, f3_0, f1_198, f1_284, f1_286, f1_241, f1_179, f1_152, f1_126, f1_286_12, f1_241_11, f1_179_10, f1_152_9, f1_126_8, f1_286_17, f1_241_16, f1_179_15, f1_152_14, f1_126_13, f1_0, own_u8, own_u7, own_u6, own_u5, g0, g1, g2, g3, gx, own_11, own_12, own_13, hl194, hl224, hl240, hg223, hg239, hg244, he224, he237, he240, he244, hm1, hm2, hm3, hk1, hk2, hx2, hx3, hx4, hr1, hr2, hr3, hbb, hab, hcb, own_k00, own_k01, own_k02, own_k03, own_k04, own_k10, own_k11, own_k12, own_k13, own_k14, own_k20, own_k21, own_k22, own_k23, own_k24, own_k30, own_k31, own_k32, own_k33, own_k34, own_k40, own_k41, own_k42, own_k43, own_k44, own_e01, own_e02, own_e03, own_e04, own_e10, own_e12, own_e13, own_e14, own_e20, own_e21, own_e23, own_e24, own_e30, own_e31, own_e32, own_e34, own_e40, own_e41, own_e42, own_e43, ↓reduceIte]
    by_cases zb1 : 191 < b.toInt
    · have hbb : (b &&& 192 = 128) = False := eq_false (by rw [hnb]; omega)
      have hab : (b < 144) = False := eq_false (by rw [own_lt, own_l144]; omega)
      have hcb : (191 < b) = True := eq_true (by rw [own_lt, own_l191]; omega)
      simp only [f2_146, f2_148, f2_141, f2_124, f2_92, f2_87, f2_70, f2_38, f2_0, f3_16, f3_16_2, f3_0, f1_198, f1_284, f1_286, f1_241, f1_179, f1_152, f1_126, f1_286_12, f1_241_11, f1_179_10, f1_152_9, f1_126_8, f1_286_17, f1_241_16, f1_179_15, f1_152_14, f1_126_13, f1_0, own_u8, own_u7, own_u6, own_u5, g0, g1, g2, g3, gx, own_11, own_12, own_13, hl194, hl224, hl240, hg223, hg239, hg244, he224, he237, he240, he244, hm1, hm2, hm3, hk1, hk2, hx2, hx3, hx4, hr1, hr2, hr3, hbb, hab, hcb, own_k00, own_k01, own_k02, own_k03, own_k04, own_k10, own_k11, own_k12, own_k13, own_k14, own_k20, own_k21, own_k22, own_k23, own_k24, own_k30, own_k31, own_k32, own_k33, own_k34, own_k40, own_k41, own_k42, own_k43, own_k44, own_e01, own_e02, own_e03, own_e04, own_e10, own_e12, own_e13, own_e14, own_e20, own_e21, own_e23, own_e24, own_e30, own_e31, own_e32, own_e34, own_e40, own_e41, own_e42, own_e43, ↓reduceIte]
    by_cases zb2 : b.toInt < 144
    · have hbb : (b &&& 192 = 128) = True := eq_true (by rw [hnb]; omega)
      have hab : (b < 144) = True := eq_true (by rw [own_lt, own_l144]; omega)
      have hcb : (191 < b) = False := eq_false (by rw [own_lt, own_l191]; omega)
      have hp1 : (own_shl (a &&& 7) 18 ||| own_shl (b &&& 63) 12 < 65536) = True := eq_true (by rw [own_lt, own_l65536]; omega)
      have hp2 : (1114111 < own_shl (a &&& 7) 18 ||| own_shl (b &&& 63) 12) = False := eq_false (by rw [own_lt, own_l1114111]; omega)
      simp only [f2_146, f2_148, f2_141, f2_124, f2_92, f2_87, f2_70, f2_38, f2_0, f3_16, f3_16_2, f3_0, f1_198, f1_284, f1_286, f1_241, f1_179, f1_152, f1_126, f1_286_12, f1_241_11, f1_179_10, f1_152_9, f1_126_8, f1_286_17, f1_241_16, f1_179_15, f1_152_14, f1_126_13, f1_0, own_u8, own_u7, own_u6, own_u5, g0, g1, g2, g3, gx, own_11, own_12, own_13, hl194, hl224, hl240, hg223, hg239, hg244, he224, he237, he240, he244, hm1, hm2, hm3, hk1, hk2, hx2, hx3, hx4, hr1, hr2, hr3, hbb, hab, hcb, hp1, hp2, own_k00, own_k01, own_k02, own_k03, own_k04, own_k10, own_k11, own_k12, own_k13, own_k14, own_k20, own_k21, own_k22, own_k23, own_k24, own_k30, own_k31, own_k32, own_k33, own_k34, own_k40, own_k41, own_k42, own_k43, own_k44, own_e01, own_e02, own_e03, own_e04, own_e10, own_e12, own_e13, own_e14, own_e20, own_e21, own_e23, own_e24, own_e30, own_e31, own_e32, own_e34, own_e40, own_e41, own_e42, own_e43, ↓reduceIte]
    have hbb : (b &&& 192 = 128) = True := eq_true (by rw [hnb]; omega)
    have hab : (b < 144) = False := eq_false (by rw [own_lt, own_l144]; omega)
    have hcb : (191 < b) = False := eq_false (by rw [own_lt, own_l191]; omega)
    have hp1 : (own_shl (a &&& 7) 18 ||| own_shl (b &&& 63) 12 < 65536) = False := eq_false (by rw [own_lt, own_l65536]; omega)
    have hp3 : (own_shl (a &&& 7) 18 ||| own_shl (b &&& 63) 12 < 55296) = False := eq_false (by rw [own_lt, own_l55296]; omega)
    have hp2 : (1114111 < own_shl (a &&& 7) 18 ||| own_shl (b &&& 63) 12) = False := eq_false (by rw [own_lt, own_l1114111]; omega)
    have hp4 : (57343 < own_shl (a &&& 7) 18 ||| own_shl (b &&& 63) 12) = True := eq_true (by rw [own_lt, own_l57343]; omega)
    have hnc := own_n4 c0 c1
    by_cases zc0 : c.toInt < 128
    · have hbc : (c &&& 192 = 128) = False := eq_false (by rw [hnc]; omega)
      have hac : (c < 128) = True := eq_true (by rw [own_lt, own_l128]; omega)
      have hcc : (191 < c) = False := eq_false (by rw [own_lt, own_l191]; omega)
      simp only [f2_146, f2_148, f2_141, f2_124, f2_92, f2_87, f2_70, f2_38, f2_0, f3_16, f3_16_2, f3_0, f1_198, f1_284, f1_286, f1_241, f1_179, f1_152, f1_126, f1_286_12, f1_241_11, f1_179_10, f1_152_9, f1_126_8, f1_286_17, f1_241_16, f1_179_15, f1_152_14, f1_126_13, f1_0, own_u8, own_u7, own_u6, own_u5, g0, g1, g2, g3, gx, own_11, own_12, own_13, hl194, hl224, hl240, hg223, hg239, hg244, he224, he237, he240, he244, hm1, hm2, hm3, hk1, hk2, hx2, hx3, hx4, hr1, hr2, hr3, hbb, hab, hcb, hp1, hp3, hp2, hp4, hbc, hac, hcc, own_k00, own_k01, own_k02, own_k03, own_k04, own_k10, own_k11, own_k12, own_k13, own_k14, own_k20, own_k21, own_k22, own_k23, own_k24, own_k30, own_k31, own_k32, own_k33, own_k34, own_k40, own_k41, own_k42, own_k43, own_k44, own_e01, own_e02, own_e03, own_e04, own_e10, own_e12, own_e13, own_e14, own_e20, own_e21, own_e23, own_e24, own_e30, own_e31, own_e32, own_e34, own_e40, own_e41, own_e42, own_e43, ↓reduceIte]
    by_cases zc1 : 191 < c.toInt
    · have hbc : (c &&& 192 = 128) = False := eq_false (by rw [hnc]; omega)
      have hac : (c < 128) = False := eq_false (by rw [own_lt, own_l128]; omega)
      have hcc : (191 < c) = True := eq_true (by rw [own_lt, own_l191]; omega)
      simp only [f2_146, f2_148, f2_141, f2_124, f2_92, f2_87, f2_70, f2_38, f2_0, f3_16, f3_16_2, f3_0, f1_198, f1_284, f1_286, f1_241, f1_179, f1_152, f1_126, f1_286_12, f1_241_11, f1_179_10, f1_152_9, f1_126_8, f1_286_17, f1_241_16, f1_179_15, f1_152_14, f1_126_13, f1_0, own_u8, own_u7, own_u6, own_u5, g0, g1, g2, g3, gx, own_11, own_12, own_13, hl194, hl224, hl240, hg223, hg239, hg244, he224, he237, he240, he244, hm1, hm2, hm3, hk1, hk2, hx2, hx3, hx4, hr1, hr2, hr3, hbb, hab, hcb, hp1, hp3, hp2, hp4, hbc, hac, hcc, own_k00, own_k01, own_k02, own_k03, own_k04, own_k10, own_k11, own_k12, own_k13, own_k14, own_k20, own_k21, own_k22, own_k23, own_k24, own_k30, own_k31, own_k32, own_k33, own_k34, own_k40, own_k41, own_k42, own_k43, own_k44, own_e01, own_e02, own_e03, own_e04, own_e10, own_e12, own_e13, own_e14, own_e20, own_e21, own_e23, own_e24, own_e30, own_e31, own_e32, own_e34, own_e40, own_e41, own_e42, own_e43, ↓reduceIte]
    have hbc : (c &&& 192 = 128) = True := eq_true (by rw [hnc]; omega)
    have hac : (c < 128) = False := eq_false (by rw [own_lt, own_l128]; omega)
    have hcc : (191 < c) = False := eq_false (by rw [own_lt, own_l191]; omega)
    simp only [f2_146, f2_148, f2_141, f2_124, f2_92, f2_87, f2_70, f2_38, f2_0, f3_16, f3_16_2, f3_0, f1_198, f1_284, f1_286, f1_241, f1_179, f1_152, f1_126, f1_286_12, f1_241_11, f1_179_10, f1_152_9, f1_126_8, f1_286_17, f1_241_16, f1_179_15, f1_152_14, f1_126_13, f1_0, own_u8, own_u7, own_u6, own_u5, g0, g1, g2, g3, gx, own_11, own_12, own_13, hl194, hl224, hl240, hg223, hg239, hg244, he224, he237, he240, he244, hm1, hm2, hm3, hk1, hk2, hx2, hx3, hx4, hr1, hr2, hr3, hbb, hab, hcb, hp1, hp3, hp2, hp4, hbc, hac, hcc, own_k00, own_k01, own_k02, own_k03, own_k04, own_k10, own_k11, own_k12, own_k13, own_k14, own_k20, own_k21, own_k22, own_k23, own_k24, own_k30, own_k31, own_k32, own_k33, own_k34, own_k40, own_k41, own_k42, own_k43, own_k44, own_e01, own_e02, own_e03, own_e04, own_e10, own_e12, own_e13, own_e14, own_e20, own_e21, own_e23, own_e24, own_e30, own_e31, own_e32, own_e34, own_e40, own_e41, own_e42, own_e43, ↓reduceIte]
  have xI : 4 ≤ x.toInt := by rw [own_eq, own_l1] at z1; rw [own_eq, own_l2] at z2; rw [own_eq, own_l3] at z3; omega
  have hx2 : (x < 2) = False := eq_false (by rw [own_lt, own_l2]; omega)
  have hx3 : (x < 3) = False := eq_false (by rw [own_lt, own_l3]; omega)
  have hx4 : (x < 4) = False := eq_false (by rw [own_lt, own_l4]; omega)
  have hr1 : (p + 1 = q) = False := by rw [hq1]; exact eq_false (by rw [own_eq, own_l1]; omega)
  have hr2 : (p + 2 = q) = False := by rw [hq2]; exact eq_false (by rw [own_eq, own_l2]; omega)
  have hr3 : (p + 3 = q) = False := by rw [hq3]; exact eq_false (by rw [own_eq, own_l3]; omega)
  have hnb := own_n4 b0 b1
  by_cases zb0 : b.toInt < 128
  · have hbb : (b &&& 192 = 128) = False := eq_false (by rw [hnb]; omega)
    have hab : (b < 144) = True := eq_true (by rw [own_lt, own_l144]; omega)
    have hcb : (191 < b) = False := eq_false (by rw [own_lt, own_l191]; omega)
    simp only [f2_146, f2_148, f2_141, f2_124, f2_92, f2_87, f2_70, f2_38, f2_0, f3_16, f3_16_2, f3_0, f1_198, f1_284, f1_286, f1_241, f1_179, f1_152, f1_126, f1_286_12, f1_241_11, f1_179_10, f1_152_9, f1_126_8, f1_286_17, f1_241_16, f1_179_15, f1_152_14, f1_126_13, f1_0, own_u8, own_u7, own_u6, own_u5, g0, g1, g2, g3, gx, own_11, own_12, own_13, hl194, hl224, hl240, hg223, hg239, hg244, he224, he237, he240, he244, hm1, hm2, hm3, hk1, hk2, hx2, hx3, hx4, hr1, hr2, hr3, hbb, hab, hcb, own_k00, own_k01, own_k02, own_k03, own_k04, own_k10, own_k11, own_k12, own_k13, own_k14, own_k20, own_k21, own_k22, own_k23, own_k24, own_k30, own_k31, own_k32, own_k33, own_k34, own_k40, own_k41, own_k42, own_k43, own_k44, own_e01, own_e02, own_e03, own_e04, own_e10, own_e12, own_e13, own_e14, own_e20, own_e21, own_e23, own_e24, own_e30, own_e31, own_e32, own_e34, own_e40, own_e41, own_e42, own_e43, ↓reduceIte]
  by_cases zb1 : 191 < b.toInt
  · have hbb : (b &&& 192 = 128) = False := eq_false (by rw [hnb]; omega)
    have hab : (b < 144) = False := eq_false (by rw [own_lt, own_l144]; omega)
    have hcb : (191 < b) = True := eq_true (by rw [own_lt, own_l191]; omega)
    simp only [f2_146, f2_148, f2_141, f2_124, f2_92, f2_87, f2_70, f2_38, f2_0, f3_16, f3_16_2, f3_0, f1_198, f1_284, f1_286, f1_241, f1_179, f1_152, f1_126, f1_286_12, f1_241_11, f1_179_10, f1_152_9, f1_126_8, f1_286_17, f1_241_16, f1_179_15, f1_152_14, f1_126_13, f1_0, own_u8, own_u7, own_u6, own_u5, g0, g1, g2, g3, gx, own_11, own_12, own_13, hl194, hl224, hl240, hg223, hg239, hg244, he224, he237, he240, he244, hm1, hm2, hm3, hk1, hk2, hx2, hx3, hx4, hr1, hr2, hr3, hbb, hab, hcb, own_k00, own_k01, own_k02, own_k03, own_k04, own_k10, own_k11, own_k12, own_k13, own_k14, own_k20, own_k21, own_k22, own_k23, own_k24, own_k30, own_k31, own_k32, own_k33, own_k34, own_k40, own_k41, own_k42, own_k43, own_k44, own_e01, own_e02, own_e03, own_e04, own_e10, own_e12, own_e13, own_e14, own_e20, own_e21, own_e23, own_e24, own_e30, own_e31, own_e32, own_e34, own_e40, own_e41, own_e42, own_e43, ↓reduceIte]
  by_cases zb2 : b.toInt < 144
  · have hbb : (b &&& 192 = 128) = True := eq_true (by rw [hnb]; omega)
    have hab : (b < 144) = True := eq_true (by rw [own_lt, own_l144]; omega)
    have hcb : (191 < b) = False := eq_false (by rw [own_lt, own_l191]; omega)
    have hp1 : (own_shl (a &&& 7) 18 ||| own_shl (b &&& 63) 12 < 65536) = True := eq_true (by rw [own_lt, own_l65536]; omega)
    have hp2 : (1114111 < own_shl (a &&& 7) 18 ||| own_shl (b &&& 63) 12) = False := eq_false (by rw [own_lt, own_l1114111]; omega)
    simp only [f2_146, f2_148, f2_141, f2_124, f2_92, f2_87, f2_70, f2_38, f2_0, f3_16, f3_16_2, f3_0, f1_198, f1_284, f1_286, f1_241, f1_179, f1_152, f1_126, f1_286_12, f1_241_11, f1_179_10, f1_152_9, f1_126_8, f1_286_17, f1_241_16, f1_179_15, f1_152_14, f1_126_13, f1_0, own_u8, own_u7, own_u6, own_u5, g0, g1, g2, g3, gx, own_11, own_12, own_13, hl194, hl224, hl240, hg223, hg239, hg244, he224, he237, he240, he244, hm1, hm2, hm3, hk1, hk2, hx2, hx3, hx4, hr1, hr2, hr3, hbb, hab, hcb, hp1, hp2, own_k00, own_k01, own_k02, own_k03, own_k04, own_k10, own_k11, own_k12, own_k13, own_k14, own_k20, own_k21, own_k22, own_k23, own_k24, own_k30, own_k31, own_k32, own_k33, own_k34, own_k40, own_k41, own_k42, own_k43, own_k44, own_e01, own_e02, own_e03, own_e04, own_e10, own_e12, own_e13, own_e14, own_e20, own_e21, own_e23, own_e24, own_e30, own_e31, own_e32, own_e34, own_e40, own_e41, own_e42, own_e43, ↓reduceIte]
  have hbb : (b &&& 192 = 128) = True := eq_true (by rw [hnb]; omega)
  have hab : (b < 144) = False := eq_false (by rw [own_lt, own_l144]; omega)
  have hcb : (191 < b) = False := eq_false (by rw [own_lt, own_l191]; omega)
  have hp1 : (own_shl (a &&& 7) 18 ||| own_shl (b &&& 63) 12 < 65536) = False := eq_false (by rw [own_lt, own_l65536]; omega)
  have hp3 : (own_shl (a &&& 7) 18 ||| own_shl (b &&& 63) 12 < 55296) = False := eq_false (by rw [own_lt, own_l55296]; omega)
  have hp2 : (1114111 < own_shl (a &&& 7) 18 ||| own_shl (b &&& 63) 12) = False := eq_false (by rw [own_lt, own_l1114111]; omega)
  have hp4 : (57343 < own_shl (a &&& 7) 18 ||| own_shl (b &&& 63) 12) = True := eq_true (by rw [own_lt, own_l57343]; omega)
  have hnc := own_n4 c0 c1
  by_cases zc0 : c.toInt < 128
  · have hbc : (c &&& 192 = 128) = False := eq_false (by rw [hnc]; omega)
    have hac : (c < 128) = True := eq_true (by rw [own_lt, own_l128]; omega)
    have hcc : (191 < c) = False := eq_false (by rw [own_lt, own_l191]; omega)
    simp only [f2_146, f2_148, f2_141, f2_124, f2_92, f2_87, f2_70, f2_38, f2_0, f3_16, f3_16_2, f3_0, f1_198, f1_284, f1_286, f1_241, f1_179, f1_152, f1_126, f1_286_12, f1_241_11, f1_179_10, f1_152_9, f1_126_8, f1_286_17, f1_241_16, f1_179_15, f1_152_14, f1_126_13, f1_0, own_u8, own_u7, own_u6, own_u5, g0, g1, g2, g3, gx, own_11, own_12, own_13, hl194, hl224, hl240, hg223, hg239, hg244, he224, he237, he240, he244, hm1, hm2, hm3, hk1, hk2, hx2, hx3, hx4, hr1, hr2, hr3, hbb, hab, hcb, hp1, hp3, hp2, hp4, hbc, hac, hcc, own_k00, own_k01, own_k02, own_k03, own_k04, own_k10, own_k11, own_k12, own_k13, own_k14, own_k20, own_k21, own_k22, own_k23, own_k24, own_k30, own_k31, own_k32, own_k33, own_k34, own_k40, own_k41, own_k42, own_k43, own_k44, own_e01, own_e02, own_e03, own_e04, own_e10, own_e12, own_e13, own_e14, own_e20, own_e21, own_e23, own_e24, own_e30, own_e31, own_e32, own_e34, own_e40, own_e41, own_e42, own_e43, ↓reduceIte]
  by_cases zc1 : 191 < c.toInt
  · have hbc : (c &&& 192 = 128) = False := eq_false (by rw [hnc]; omega)
    have hac : (c < 128) = False := eq_false (by rw [own_lt, own_l128]; omega)
    have hcc : (191 < c) = True := eq_true (by rw [own_lt, own_l191]; omega)
    simp only [f2_146, f2_148, f2_141, f2_124, f2_92, f2_87, f2_70, f2_38, f2_0, f3_16, f3_16_2, f3_0, f1_198, f1_284, f1_286, f1_241, f1_179, f1_152, f1_126, f1_286_12, f1_241_11, f1_179_10, f1_152_9, f1_126_8, f1_286_17, f1_241_16, f1_179_15, f1_152_14, f1_126_13, f1_0, own_u8, own_u7, own_u6, own_u5, g0, g1, g2, g3, gx, own_11, own_12, own_13, hl194, hl224, hl240, hg223, hg239, hg244, he224, he237, he240, he244, hm1, hm2, hm3, hk1, hk2, hx2, hx3, hx4, hr1, hr2, hr3, hbb, hab, hcb, hp1, hp3, hp2, hp4, hbc, hac, hcc, own_k00, own_k01, own_k02, own_k03, own_k04, own_k10, own_k11, own_k12, own_k13, own_k14, own_k20, own_k21, own_k22, own_k23, own_k24, own_k30, own_k31, own_k32, own_k33, own_k34, own_k40, own_k41, own_k42, own_k43, own_k44, own_e01, own_e02, own_e03, own_e04, own_e10, own_e12, own_e13, own_e14, own_e20, own_e21, own_e23, own_e24, own_e30, own_e31, own_e32, own_e34, own_e40, own_e41, own_e42, own_e43, ↓reduceIte]
  have hbc : (c &&& 192 = 128) = True := eq_true (by rw [hnc]; omega)
  have hac : (c < 128) = False := eq_false (by rw [own_lt, own_l128]; omega)
  have hcc : (191 < c) = False := eq_false (by rw [own_lt, own_l191]; omega)
  have hne := own_n4 e0 e1
  by_cases ze0 : e.toInt < 128
  · have hbe : (e &&& 192 = 128) = False := eq_false (by rw [hne]; omega)
    have hae : (e < 128) = True := eq_true (by rw [own_lt, own_l128]; omega)
    have hce : (191 < e) = False := eq_false (by rw [own_lt, own_l191]; omega)
    simp only [f2_146, f2_148, f2_141, f2_124, f2_92, f2_87, f2_70, f2_38, f2_0, f3_16, f3_16_2, f3_0, f1_198, f1_284, f1_286, f1_241, f1_179, f1_152, f1_126, f1_286_12, f1_241_11, f1_179_10, f1_152_9, f1_126_8, f1_286_17, f1_241_16, f1_179_15, f1_152_14, f1_126_13, f1_0, own_u8, own_u7, own_u6, own_u5, g0, g1, g2, g3, gx, own_11, own_12, own_13, hl194, hl224, hl240, hg223, hg239, hg244, he224, he237, he240, he244, hm1, hm2, hm3, hk1, hk2, hx2, hx3, hx4, hr1, hr2, hr3, hbb, hab, hcb, hp1, hp3, hp2, hp4, hbc, hac, hcc, hbe, hae, hce, own_k00, own_k01, own_k02, own_k03, own_k04, own_k10, own_k11, own_k12, own_k13, own_k14, own_k20, own_k21, own_k22, own_k23, own_k24, own_k30, own_k31, own_k32, own_k33, own_k34, own_k40, own_k41, own_k42, own_k43, own_k44, own_e01, own_e02, own_e03, own_e04, own_e10, own_e12, own_e13, own_e14, own_e20, own_e21, own_e23, own_e24, own_e30, own_e31, own_e32, own_e34, own_e40, own_e41, own_e42, own_e43, ↓reduceIte]
  by_cases ze1 : 191 < e.toInt
  · have hbe : (e &&& 192 = 128) = False := eq_false (by rw [hne]; omega)
    have hae : (e < 128) = False := eq_false (by rw [own_lt, own_l128]; omega)
    have hce : (191 < e) = True := eq_true (by rw [own_lt, own_l191]; omega)
    simp only [f2_146, f2_148, f2_141, f2_124, f2_92, f2_87, f2_70, f2_38, f2_0, f3_16, f3_16_2, f3_0, f1_198, f1_284, f1_286, f1_241, f1_179, f1_152, f1_126, f1_286_12, f1_241_11, f1_179_10, f1_152_9, f1_126_8, f1_286_17, f1_241_16, f1_179_15, f1_152_14, f1_126_13, f1_0, own_u8, own_u7, own_u6, own_u5, g0, g1, g2, g3, gx, own_11, own_12, own_13, hl194, hl224, hl240, hg223, hg239, hg244, he224, he237, he240, he244, hm1, hm2, hm3, hk1, hk2, hx2, hx3, hx4, hr1, hr2, hr3, hbb, hab, hcb, hp1, hp3, hp2, hp4, hbc, hac, hcc, hbe, hae, hce, own_k00, own_k01, own_k02, own_k03, own_k04, own_k10, own_k11, own_k12, own_k13, own_k14, own_k20, own_k21, own_k22, own_k23, own_k24, own_k30, own_k31, own_k32, own_k33, own_k34, own_k40, own_k41, own_k42, own_k43, own_k44, own_e01, own_e02, own_e03, own_e04, own_e10, own_e12, own_e13, own_e14, own_e20, own_e21, own_e23, own_e24, own_e30, own_e31, own_e32, own_e34, own_e40, own_e41, own_e42, own_e43, ↓reduceIte]
  have hbe : (e &&& 192 = 128) = True := eq_true (by rw [hne]; omega)
  have hae : (e < 128) = False := eq_false (by rw [own_lt, own_l128]; omega)
  have hce : (191 < e) = False := eq_false (by rw [own_lt, own_l191]; omega)
  simp only [f2_146, f2_148, f2_141, f2_124, f2_92, f2_87, f2_70, f2_38, f2_0, f3_16, f3_16_2, f3_0, f1_198, f1_284, f1_286, f1_241, f1_179, f1_152, f1_126, f1_286_12, f1_241_11, f1_179_10, f1_152_9, f1_126_8, f1_286_17, f1_241_16, f1_179_15, f1_152_14, f1_126_13, f1_0, own_u8, own_u7, own_u6, own_u5, g0, g1, g2, g3, gx, own_11, own_12, own_13, hl194, hl224, hl240, hg223, hg239, hg244, he224, he237, he240, he244, hm1, hm2, hm3, hk1, hk2, hx2, hx3, hx4, hr1, hr2, hr3, hbb, hab, hcb, hp1, hp3, hp2, hp4, hbc, hac, hcc, hbe, hae, hce, own_k00, own_k01, own_k02, own_k03, own_k04, own_k10, own_k11, own_k12, own_k13, own_k14, own_k20, own_k21, own_k22, own_k23, own_k24, own_k30, own_k31, own_k32, own_k33, own_k34, own_k40, own_k41, own_k42, own_k43, own_k44, own_e01, own_e02, own_e03, own_e04, own_e10, own_e12, own_e13, own_e14, own_e20, own_e21, own_e23, own_e24, own_e30, own_e31, own_e32, own_e34, own_e40, own_e41, own_e42, own_e43, ↓reduceIte]
theorem own_c9 (v : List Int32) (p q a b c e x : Int32) (g0 : own_get v p &&& 255 = a) (g1 : own_get v (p + 1) &&& 255 = b) (g2 : own_get v (p + 2) &&& 255 = c) (g3 : own_get v (p + 3) &&& 255 = e) (gx : q - p = x) (hq1 : (p + 1 = q) = (x = 1)) (hq2 : (p + 2 = q) = (x = 2)) (hq3 : (p + 3 = q) = (x = 3)) (x1 : 1 ≤ x.toInt) (a0 : 128 ≤ a.toInt) (a1 : a.toInt ≤ 255) (b0 : 0 ≤ b.toInt) (b1 : b.toInt ≤ 255) (c0 : 0 ≤ c.toInt) (c1 : c.toInt ≤ 255) (e0 : 0 ≤ e.toInt) (e1 : e.toInt ≤ 255) (y0 : 241 ≤ a.toInt) (y1 : a.toInt ≤ 243) : f2_0 v p q = f1_0 v p q := by
  have hl194 : (a < 194) = False := eq_false (by rw [own_lt, own_l194]; omega)
  have hl224 : (a < 224) = False := eq_false (by rw [own_lt, own_l224]; omega)
  have hl240 : (a < 240) = False := eq_false (by rw [own_lt, own_l240]; omega)
  have hg223 : (223 < a) = True := eq_true (by rw [own_lt, own_l223]; omega)
  have hg239 : (239 < a) = True := eq_true (by rw [own_lt, own_l239]; omega)
  have hg244 : (244 < a) = False := eq_false (by rw [own_lt, own_l244]; omega)
  have he224 : (a = 224) = False := eq_false (by rw [own_eq, own_l224]; omega)
  have he237 : (a = 237) = False := eq_false (by rw [own_eq, own_l237]; omega)
  have he240 : (a = 240) = False := eq_false (by rw [own_eq, own_l240]; omega)
  have he244 : (a = 244) = False := eq_false (by rw [own_eq, own_l244]; omega)
  have hm1 : (a &&& 224 = 192) = False := eq_false (by rw [own_n1 (by omega) a1]; omega)
  have hm2 : (a &&& 240 = 224) = False := eq_false (by rw [own_n2 (by omega) a1]; omega)
  have hm3 : (a &&& 248 = 240) = True := eq_true (by rw [own_n3 (by omega) a1]; omega)
  have em := Jvm.Kit.i32_mask a 7 (k := 3) (by decide) (by decide)
  have e9 : (own_shl (a &&& 7) 18).toInt = (a &&& 7).toInt * 2 ^ 18 := own_shlI _ _ (k := 18) (by decide) (by omega) (by omega)
  have ea : (own_shl (a &&& 7) 18 + 262143).toInt = (own_shl (a &&& 7) 18).toInt + 262143 := Jvm.Kit.i32_add (by rw [own_l262143]; omega) (by rw [own_l262143]; omega)
  have hk1 : (own_shl (a &&& 7) 18 + 262143 < 65536) = False := eq_false (by rw [own_lt, own_l65536]; omega)
  have hk2 : (1114111 < own_shl (a &&& 7) 18) = False := eq_false (by rw [own_lt, own_l1114111]; omega)
  have eb := Jvm.Kit.i32_mask b 63 (k := 6) (by decide) (by decide)
  have es : (own_shl (b &&& 63) 12).toInt = (b &&& 63).toInt * 2 ^ 12 := own_shlI _ _ (k := 12) (by decide) (by omega) (by omega)
  have ec : (own_shl (a &&& 7) 18 ||| own_shl (b &&& 63) 12).toInt = (own_shl (a &&& 7) 18).toInt + (own_shl (b &&& 63) 12).toInt := own_orI 18 (a &&& 7).toInt.toNat (by omega) (by omega) (by omega) (by omega)
  by_cases z1 : x = 1
  · skip
    have xI : x.toInt = 1 := by rw [z1]; rfl
    have hx2 : (x < 2) = True := eq_true (by rw [own_lt, own_l2]; omega)
    have hx3 : (x < 3) = True := eq_true (by rw [own_lt, own_l3]; omega)
    have hx4 : (x < 4) = True := eq_true (by rw [own_lt, own_l4]; omega)
    have hr1 : (p + 1 = q) = True := by rw [hq1]; exact eq_true (by rw [own_eq, own_l1]; omega)
    have hr2 : (p + 2 = q) = False := by rw [hq2]; exact eq_false (by rw [own_eq, own_l2]; omega)
    have hr3 : (p + 3 = q) = False := by rw [hq3]; exact eq_false (by rw [own_eq, own_l3]; omega)
    simp only [f2_146, f2_148, f2_141, f2_124, f2_92, f2_87, f2_70, f2_38, f2_0, f3_16, f3_16_2, f3_0, f1_198, f1_284, f1_286, f1_241, f1_179, f1_152, f1_126, f1_286_12, f1_241_11, f1_179_10, f1_152_9, f1_126_8, f1_286_17, f1_241_16, f1_179_15, f1_152_14, f1_126_13, f1_0, own_u8, own_u7, own_u6, own_u5, g0, g1, g2, g3, gx, own_11, own_12, own_13, hl194, hl224, hl240, hg223, hg239, hg244, he224, he237, he240, he244, hm1, hm2, hm3, hk1, hk2, hx2, hx3, hx4, hr1, hr2, hr3, own_k00, own_k01, own_k02, own_k03, own_k04, own_k10, own_k11, own_k12, own_k13, own_k14, own_k20, own_k21, own_k22, own_k23, own_k24, own_k30, own_k31, own_k32, own_k33, own_k34, own_k40, own_k41, own_k42, own_k43, own_k44, own_e01, own_e02, own_e03, own_e04, own_e10, own_e12, own_e13, own_e14, own_e20, own_e21, own_e23, own_e24, own_e30, own_e31, own_e32, own_e34, own_e40, own_e41, own_e42, own_e43, ↓reduceIte]
  by_cases z2 : x = 2
  · skip
    have xI : x.toInt = 2 := by rw [z2]; rfl
    have hx2 : (x < 2) = False := eq_false (by rw [own_lt, own_l2]; omega)
    have hx3 : (x < 3) = True := eq_true (by rw [own_lt, own_l3]; omega)
    have hx4 : (x < 4) = True := eq_true (by rw [own_lt, own_l4]; omega)
    have hr1 : (p + 1 = q) = False := by rw [hq1]; exact eq_false (by rw [own_eq, own_l1]; omega)
    have hr2 : (p + 2 = q) = True := by rw [hq2]; exact eq_true (by rw [own_eq, own_l2]; omega)
    have hr3 : (p + 3 = q) = False := by rw [hq3]; exact eq_false (by rw [own_eq, own_l3]; omega)
    have hnb := own_n4 b0 b1
    by_cases zb0 : b.toInt < 128
    · have hbb : (b &&& 192 = 128) = False := eq_false (by rw [hnb]; omega)
      have hab : (b < 128) = True := eq_true (by rw [own_lt, own_l128]; omega)
      have hcb : (191 < b) = False := eq_false (by rw [own_lt, own_l191]; omega)
      simp only [f2_146, f2_148, f2_141, f2_124, f2_92, f2_87, f2_70, f2_38, f2_0, f3_16, f3_16_2, f3_0, f1_198, f1_284, f1_286, f1_241, f1_179, f1_152, f1_126, f1_286_12, f1_241_11, f1_179_10, f1_152_9, f1_126_8, f1_286_17, f1_241_16, f1_179_15, f1_152_14, f1_126_13, f1_0, own_u8, own_u7, own_u6, own_u5, g0, g1, g2, g3, gx, own_11, own_12, own_13, hl194, hl224, hl240, hg223, hg239, hg244, he224, he237, he240, he244, hm1, hm2, hm3, hk1, hk2, hx2, hx3, hx4, hr1, hr2, hr3, hbb, hab, hcb, own_k00, own_k01, own_k02, own_k03, own_k04, own_k10, own_k11, own_k12, own_k13, own_k14, own_k20, own_k21, own_k22, own_k23, own_k24, own_k30, own_k31, own_k32, own_k33, own_k34, own_k40, own_k41, own_k42, own_k43, own_k44, own_e01, own_e02, own_e03, own_e04, own_e10, own_e12, own_e13, own_e14, own_e20, own_e21, own_e23, own_e24, own_e30, own_e31, own_e32, own_e34, own_e40, own_e41, own_e42, own_e43, ↓reduceIte]
    by_cases zb1 : 191 < b.toInt
    · have hbb : (b &&& 192 = 128) = False := eq_false (by rw [hnb]; omega)
      have hab : (b < 128) = False := eq_false (by rw [own_lt, own_l128]; omega)
      have hcb : (191 < b) = True := eq_true (by rw [own_lt, own_l191]; omega)
      simp only [f2_146, f2_148, f2_141, f2_124, f2_92, f2_87, f2_70, f2_38, f2_0, f3_16, f3_16_2, f3_0, f1_198, f1_284, f1_286, f1_241, f1_179, f1_152, f1_126, f1_286_12, f1_241_11, f1_179_10, f1_152_9, f1_126_8, f1_286_17, f1_241_16, f1_179_15, f1_152_14, f1_126_13, f1_0, own_u8, own_u7, own_u6, own_u5, g0, g1, g2, g3, gx, own_11, own_12, own_13, hl194, hl224, hl240, hg223, hg239, hg244, he224, he237, he240, he244, hm1, hm2, hm3, hk1, hk2, hx2, hx3, hx4, hr1, hr2, hr3, hbb, hab, hcb, own_k00, own_k01, own_k02, own_k03, own_k04, own_k10, own_k11, own_k12, own_k13, own_k14, own_k20, own_k21, own_k22, own_k23, own_k24, own_k30, own_k31, own_k32, own_k33, own_k34, own_k40, own_k41, own_k42, own_k43, own_k44, own_e01, own_e02, own_e03, own_e04, own_e10, own_e12, own_e13, own_e14, own_e20, own_e21, own_e23, own_e24, own_e30, own_e31, own_e32, own_e34, own_e40, own_e41, own_e42, own_e43, ↓reduceIte]
    have hbb : (b &&& 192 = 128) = True := eq_true (by rw [hnb]; omega)
    have hab : (b < 128) = False := eq_false (by rw [own_lt, own_l128]; omega)
    have hcb : (191 < b) = False := eq_false (by rw [own_lt, own_l191]; omega)
    have hp1 : (own_shl (a &&& 7) 18 ||| own_shl (b &&& 63) 12 < 65536) = False := eq_false (by rw [own_lt, own_l65536]; omega)
    have hp3 : (own_shl (a &&& 7) 18 ||| own_shl (b &&& 63) 12 < 55296) = False := eq_false (by rw [own_lt, own_l55296]; omega)
    have hp2 : (1114111 < own_shl (a &&& 7) 18 ||| own_shl (b &&& 63) 12) = False := eq_false (by rw [own_lt, own_l1114111]; omega)
    have hp4 : (57343 < own_shl (a &&& 7) 18 ||| own_shl (b &&& 63) 12) = True := eq_true (by rw [own_lt, own_l57343]; omega)
    simp only [f2_146, f2_148, f2_141, f2_124, f2_92, f2_87, f2_70, f2_38, f2_0, f3_16, f3_16_2, f3_0, f1_198, f1_284, f1_286, f1_241, f1_179, f1_152, f1_126, f1_286_12, f1_241_11, f1_179_10, f1_152_9, f1_126_8, f1_286_17, f1_241_16, f1_179_15, f1_152_14, f1_126_13, f1_0, own_u8, own_u7, own_u6, own_u5, g0, g1, g2, g3, gx, own_11, own_12, own_13, hl194, hl224, hl240, hg223, hg239, hg244, he224, he237, he240, he244, hm1, hm2, hm3, hk1, hk2, hx2, hx3, hx4, hr1, hr2, hr3, hbb, hab, hcb, hp1, hp3, hp2, hp4, own_k00, own_k01, own_k02, own_k03, own_k04, own_k10, own_k11, own_k12, own_k13, own_k14, own_k20, own_k21, own_k22, own_k23, own_k24, own_k30, own_k31, own_k32, own_k33, own_k34, own_k40, own_k41, own_k42, own_k43, own_k44, own_e01, own_e02, own_e03, own_e04, own_e10, own_e12, own_e13, own_e14, own_e20, own_e21, own_e23, own_e24, own_e30, own_e31, own_e32, own_e34, own_e40, own_e41, own_e42, own_e43, ↓reduceIte]
  by_cases z3 : x = 3
  · skip
    have xI : x.toInt = 3 := by rw [z3]; rfl
    have hx2 : (x < 2) = False := eq_false (by rw [own_lt, own_l2]; omega)
    have hx3 : (x < 3) = False := eq_false (by rw [own_lt, own_l3]; omega)
    have hx4 : (x < 4) = True := eq_true (by rw [own_lt, own_l4]; omega)
    have hr1 : (p + 1 = q) = False := by rw [hq1]; exact eq_false (by rw [own_eq, own_l1]; omega)
    have hr2 : (p + 2 = q) = False := by rw [hq2]; exact eq_false (by rw [own_eq, own_l2]; omega)
    have hr3 : (p + 3 = q) = True := by rw [hq3]; exact eq_true (by rw [own_eq, own_l3]; omega)
    have hnb := own_n4 b0 b1
    by_cases zb0 : b.toInt < 128
    · have hbb : (b &&& 192 = 128) = False := eq_false (by rw [hnb]; omega)
      have hab : (b < 128) = True := eq_true (by rw [own_lt, own_l128]; omega)
      have hcb : (191 < b) = False := eq_false (by rw [own_lt, own_l191]; omega)
      simp only [f2_146, f2_148, f2_141, f2_124, f2_92, f2_87, f2_70, f2_38, f2_0, f3_16, f3_16_2, f3_0, f1_198, f1_284, f1_286, f1_241, f1_179, f1_152, f1_126, f1_286_12, f1_241_11, f1_179_10, f1_152_9, f1_126_8, f1_286_17, f1_241_16, f1_179_15, f1_152_14, f1_126_13, f1_0, own_u8, own_u7, own_u6, own_u5, g0, g1, g2, g3, gx, own_11, own_12, own_13, hl194, hl224, hl240, hg223, hg239, hg244, he224, he237, he240, he244, hm1, hm2, hm3, hk1, hk2, hx2, hx3, hx4, hr1, hr2, hr3, hbb, hab, hcb, own_k00, own_k01, own_k02, own_k03, own_k04, own_k10, own_k11, own_k12, own_k13, own_k14, own_k20, own_k21, own_k22, own_k23, own_k24, own_k30, own_k31, own_k32, own_k33, own_k34, own_k40, own_k41, own_k42, own_k43, own_k44, own_e01, own_e02, own_e03, own_e04, own_e10, own_e12, own_e13, own_e14, own_e20, own_e21, own_e23, own_e24, own_e30, own_e31, own_e32, own_e34, own_e40, own_e41, own_e42, own_e43, ↓reduceIte]
    by_cases zb1 : 191 < b.toInt
    · have hbb : (b &&& 192 = 128) = False := eq_false (by rw [hnb]; omega)
      have hab : (b < 128) = False := eq_false (by rw [own_lt, own_l128]; omega)
      have hcb : (191 < b) = True := eq_true (by rw [own_lt, own_l191]; omega)
      simp only [f2_146, f2_148, f2_141, f2_124, f2_92, f2_87, f2_70, f2_38, f2_0, f3_16, f3_16_2, f3_0, f1_198, f1_284, f1_286, f1_241, f1_179, f1_152, f1_126, f1_286_12, f1_241_11, f1_179_10, f1_152_9, f1_126_8, f1_286_17, f1_241_16, f1_179_15, f1_152_14, f1_126_13, f1_0, own_u8, own_u7, own_u6, own_u5, g0, g1, g2, g3, gx, own_11, own_12, own_13, hl194, hl224, hl240, hg223, hg239, hg244, he224, he237, he240, he244, hm1, hm2, hm3, hk1, hk2, hx2, hx3, hx4, hr1, hr2, hr3, hbb, hab, hcb, own_k00, own_k01, own_k02, own_k03, own_k04, own_k10, own_k11, own_k12, own_k13, own_k14, own_k20, own_k21, own_k22, own_k23, own_k24, own_k30, own_k31, own_k32, own_k33, own_k34, own_k40, own_k41, own_k42, own_k43, own_k44, own_e01, own_e02, own_e03, own_e04, own_e10, own_e12, own_e13, own_e14, own_e20, own_e21, own_e23, own_e24, own_e30, own_e31, own_e32, own_e34, own_e40, own_e41, own_e42, own_e43, ↓reduceIte]
    have hbb : (b &&& 192 = 128) = True := eq_true (by rw [hnb]; omega)
    have hab : (b < 128) = False := eq_false (by rw [own_lt, own_l128]; omega)
    have hcb : (191 < b) = False := eq_false (by rw [own_lt, own_l191]; omega)
    have hp1 : (own_shl (a &&& 7) 18 ||| own_shl (b &&& 63) 12 < 65536) = False := eq_false (by rw [own_lt, own_l65536]; omega)
    have hp3 : (own_shl (a &&& 7) 18 ||| own_shl (b &&& 63) 12 < 55296) = False := eq_false (by rw [own_lt, own_l55296]; omega)
    have hp2 : (1114111 < own_shl (a &&& 7) 18 ||| own_shl (b &&& 63) 12) = False := eq_false (by rw [own_lt, own_l1114111]; omega)
    have hp4 : (57343 < own_shl (a &&& 7) 18 ||| own_shl (b &&& 63) 12) = True := eq_true (by rw [own_lt, own_l57343]; omega)
    have hnc := own_n4 c0 c1
    by_cases zc0 : c.toInt < 128
    · have hbc : (c &&& 192 = 128) = False := eq_false (by rw [hnc]; omega)
      have hac : (c < 128) = True := eq_true (by rw [own_lt, own_l128]; omega)
      have hcc : (191 < c) = False := eq_false (by rw [own_lt, own_l191]; omega)
      simp only [f2_146, f2_148, f2_141, f2_124, f2_92, f2_87, f2_70, f2_38, f2_0, f3_16, f3_16_2, f3_0, f1_198, f1_284, f1_286, f1_241, f1_179, f1_152, f1_126, f1_286_12, f1_241_11, f1_179_10, f1_152_9, f1_126_8, f1_286_17, f1_241_16, f1_179_15, f1_152_14, f1_126_13, f1_0, own_u8, own_u7, own_u6, own_u5, g0, g1, g2, g3, gx, own_11, own_12, own_13, hl194, hl224, hl240, hg223, hg239, hg244, he224, he237, he240, he244, hm1, hm2, hm3, hk1, hk2, hx2, hx3, hx4, hr1, hr2, hr3, hbb, hab, hcb, hp1, hp3, hp2, hp4, hbc, hac, hcc, own_k00, own_k01, own_k02, own_k03, own_k04, own_k10, own_k11, own_k12, own_k13, own_k14, own_k20, own_k21, own_k22, own_k23, own_k24, own_k30, own_k31, own_k32, own_k33, own_k34, own_k40, own_k41, own_k42, own_k43, own_k44, own_e01, own_e02, own_e03, own_e04, own_e10, own_e12, own_e13, own_e14, own_e20, own_e21, own_e23, own_e24, own_e30, own_e31, own_e32, own_e34, own_e40, own_e41, own_e42, own_e43, ↓reduceIte]
    by_cases zc1 : 191 < c.toInt
    · have hbc : (c &&& 192 = 128) = False := eq_false (by rw [hnc]; omega)
      have hac : (c < 128) = False := eq_false (by rw [own_lt, own_l128]; omega)
      have hcc : (191 < c) = True := eq_true (by rw [own_lt, own_l191]; omega)
      simp only [f2_146, f2_148, f2_141, f2_124, f2_92, f2_87, f2_70, f2_38, f2_0, f3_16, f3_16_2, f3_0, f1_198, f1_284, f1_286, f1_241, f1_179, f1_152, f1_126, f1_286_12, f1_241_11, f1_179_10, f1_152_9, f1_126_8, f1_286_17, f1_241_16, f1_179_15, f1_152_14, f1_126_13, f1_0, own_u8, own_u7, own_u6, own_u5, g0, g1, g2, g3, gx, own_11, own_12, own_13, hl194, hl224, hl240, hg223, hg239, hg244, he224, he237, he240, he244, hm1, hm2, hm3, hk1, hk2, hx2, hx3, hx4, hr1, hr2, hr3, hbb, hab, hcb, hp1, hp3, hp2, hp4, hbc, hac, hcc, own_k00, own_k01, own_k02, own_k03, own_k04, own_k10, own_k11, own_k12, own_k13, own_k14, own_k20, own_k21, own_k22, own_k23, own_k24, own_k30, own_k31, own_k32, own_k33, own_k34, own_k40, own_k41, own_k42, own_k43, own_k44, own_e01, own_e02, own_e03, own_e04, own_e10, own_e12, own_e13, own_e14, own_e20, own_e21, own_e23, own_e24, own_e30, own_e31, own_e32, own_e34, own_e40, own_e41, own_e42, own_e43, ↓reduceIte]
    have hbc : (c &&& 192 = 128) = True := eq_true (by rw [hnc]; omega)
    have hac : (c < 128) = False := eq_false (by rw [own_lt, own_l128]; omega)
    have hcc : (191 < c) = False := eq_false (by rw [own_lt, own_l191]; omega)
    simp only [f2_146, f2_148, f2_141, f2_124, f2_92, f2_87, f2_70, f2_38, f2_0, f3_16, f3_16_2, f3_0, f1_198, f1_284, f1_286, f1_241, f1_179, f1_152, f1_126, f1_286_12, f1_241_11, f1_179_10, f1_152_9, f1_126_8, f1_286_17, f1_241_16, f1_179_15, f1_152_14, f1_126_13, f1_0, own_u8, own_u7, own_u6, own_u5, g0, g1, g2, g3, gx, own_11, own_12, own_13, hl194, hl224, hl240, hg223, hg239, hg244, he224, he237, he240, he244, hm1, hm2, hm3, hk1, hk2, hx2, hx3, hx4, hr1, hr2, hr3, hbb, hab, hcb, hp1, hp3, hp2, hp4, hbc, hac, hcc, own_k00, own_k01, own_k02, own_k03, own_k04, own_k10, own_k11, own_k12, own_k13, own_k14, own_k20, own_k21, own_k22, own_k23, own_k24, own_k30, own_k31, own_k32, own_k33, own_k34, own_k40, own_k41, own_k42, own_k43, own_k44, own_e01, own_e02, own_e03, own_e04, own_e10, own_e12, own_e13, own_e14, own_e20, own_e21, own_e23, own_e24, own_e30, own_e31, own_e32, own_e34, own_e40, own_e41, own_e42, own_e43, ↓reduceIte]
  have xI : 4 ≤ x.toInt := by rw [own_eq, own_l1] at z1; rw [own_eq, own_l2] at z2; rw [own_eq, own_l3] at z3; omega
  have hx2 : (x < 2) = False := eq_false (by rw [own_lt, own_l2]; omega)
  have hx3 : (x < 3) = False := eq_false (by rw [own_lt, own_l3]; omega)
  have hx4 : (x < 4) = False := eq_false (by rw [own_lt, own_l4]; omega)
  have hr1 : (p + 1 = q) = False := by rw [hq1]; exact eq_false (by rw [own_eq, own_l1]; omega)
  have hr2 : (p + 2 = q) = False := by rw [hq2]; exact eq_false (by rw [own_eq, own_l2]; omega)
  have hr3 : (p + 3 = q) = False := by rw [hq3]; exact eq_false (by rw [own_eq, own_l3]; omega)
  have hnb := own_n4 b0 b1
  by_cases zb0 : b.toInt < 128
  · have hbb : (b &&& 192 = 128) = False := eq_false (by rw [hnb]; omega)
    have hab : (b < 128) = True := eq_true (by rw [own_lt, own_l128]; omega)
    have hcb : (191 < b) = False := eq_false (by rw [own_lt, own_l191]; omega)
    simp only [f2_146, f2_148, f2_141, f2_124, f2_92, f2_87, f2_70, f2_38, f2_0, f3_16, f3_16_2, f3_0, f1_198, f1_284, f1_286, f1_241, f1_179, f1_152, f1_126, f1_286_12, f1_241_11, f1_179_10, f1_152_9, f1_126_8, f1_286_17, f1_241_16, f1_179_15, f1_152_14, f1_126_13, f1_0, own_u8, own_u7, own_u6, own_u5, g0, g1, g2, g3, gx, own_11, own_12, own_13, hl194, hl224, hl240, hg223, hg239, hg244, he224, he237, he240, he244, hm1, hm2, hm3, hk1, hk2, hx2, hx3, hx4, hr1, hr2, hr3, hbb, hab, hcb, own_k00, own_k01, own_k02, own_k03, own_k04, own_k10, own_k11, own_k12, own_k13, own_k14, own_k20, own_k21, own_k22, own_k23, own_k24, own_k30, own_k31, own_k32, own_k33, own_k34, own_k40, own_k41, own_k42, own_k43, own_k44, own_e01, own_e02, own_e03, own_e04, own_e10, own_e12, own_e13, own_e14, own_e20, own_e21, own_e23, own_e24, own_e30, own_e31, own_e32, own_e34, own_e40, own_e41, own_e42, own_e43, ↓reduceIte]
  by_cases zb1 : 191 < b.toInt
  · have hbb : (b &&& 192 = 128) = False := eq_false (by rw [hnb]; omega)
    have hab : (b < 128) = False := eq_false (by rw [own_lt, own_l128]; omega)
    have hcb : (191 < b) = True := eq_true (by rw [own_lt, own_l191]; omega)
    simp only [f2_146, f2_148, f2_141, f2_124, f2_92, f2_87, f2_70, f2_38, f2_0, f3_16, f3_16_2, f3_0, f1_198, f1_284, f1_286, f1_241, f1_179, f1_152, f1_126, f1_286_12, f1_241_11, f1_179_10, f1_152_9, f1_126_8, f1_286_17, f1_241_16, f1_179_15, f1_152_14, f1_126_13, f1_0, own_u8, own_u7, own_u6, own_u5, g0, g1, g2, g3, gx, own_11, own_12, own_13, hl194, hl224, hl240, hg223, hg239, hg244, he224, he237, he240, he244, hm1, hm2, hm3, hk1, hk2, hx2, hx3, hx4, hr1, hr2, hr3, hbb, hab, hcb, own_k00, own_k01, own_k02, own_k03, own_k04, own_k10, own_k11, own_k12, own_k13, own_k14, own_k20, own_k21, own_k22, own_k23, own_k24, own_k30, own_k31, own_k32, own_k33, own_k34, own_k40, own_k41, own_k42, own_k43, own_k44, own_e01, own_e02, own_e03, own_e04, own_e10, own_e12, own_e13, own_e14, own_e20, own_e21, own_e23, own_e24, own_e30, own_e31, own_e32, own_e34, own_e40, own_e41, own_e42, own_e43, ↓reduceIte]
  have hbb : (b &&& 192 = 128) = True := eq_true (by rw [hnb]; omega)
  have hab : (b < 128) = False := eq_false (by rw [own_lt, own_l128]; omega)
  have hcb : (191 < b) = False := eq_false (by rw [own_lt, own_l191]; omega)
  have hp1 : (own_shl (a &&& 7) 18 ||| own_shl (b &&& 63) 12 < 65536) = False := eq_false (by rw [own_lt, own_l65536]; omega)
  have hp3 : (own_shl (a &&& 7) 18 ||| own_shl (b &&& 63) 12 < 55296) = False := eq_false (by rw [own_lt, own_l55296]; omega)
  have hp2 : (1114111 < own_shl (a &&& 7) 18 ||| own_shl (b &&& 63) 12) = False := eq_false (by rw [own_lt, own_l1114111]; omega)
  have hp4 : (57343 < own_shl (a &&& 7) 18 ||| own_shl (b &&& 63) 12) = True := eq_true (by rw [own_lt, own_l57343]; omega)
  have hnc := own_n4 c0 c1
  by_cases zc0 : c.toInt < 128
  · have hbc : (c &&& 192 = 128) = False := eq_false (by rw [hnc]; omega)
    have hac : (c < 128) = True := eq_true (by rw [own_lt, own_l128]; omega)
    have hcc : (191 < c) = False := eq_false (by rw [own_lt, own_l191]; omega)
    simp only [f2_146, f2_148, f2_141, f2_124, f2_92, f2_87, f2_70, f2_38, f2_0, f3_16, f3_16_2, f3_0, f1_198, f1_284, f1_286, f1_241, f1_179, f1_152, f1_126, f1_286_12, f1_241_11, f1_179_10, f1_152_9, f1_126_8, f1_286_17, f1_241_16, f1_179_15, f1_152_14, f1_126_13, f1_0, own_u8, own_u7, own_u6, own_u5, g0, g1, g2, g3, gx, own_11, own_12, own_13, hl194, hl224, hl240, hg223, hg239, hg244, he224, he237, he240, he244, hm1, hm2, hm3, hk1, hk2, hx2, hx3, hx4, hr1, hr2, hr3, hbb, hab, hcb, hp1, hp3, hp2, hp4, hbc, hac, hcc, own_k00, own_k01, own_k02, own_k03, own_k04, own_k10, own_k11, own_k12, own_k13, own_k14, own_k20, own_k21, own_k22, own_k23, own_k24, own_k30, own_k31, own_k32, own_k33, own_k34, own_k40, own_k41, own_k42, own_k43, own_k44, own_e01, own_e02, own_e03, own_e04, own_e10, own_e12, own_e13, own_e14, own_e20, own_e21, own_e23, own_e24, own_e30, own_e31, own_e32, own_e34, own_e40, own_e41, own_e42, own_e43, ↓reduceIte]
  by_cases zc1 : 191 < c.toInt
  · have hbc : (c &&& 192 = 128) = False := eq_false (by rw [hnc]; omega)
    have hac : (c < 128) = False := eq_false (by rw [own_lt, own_l128]; omega)
    have hcc : (191 < c) = True := eq_true (by rw [own_lt, own_l191]; omega)
    simp only [f2_146, f2_148, f2_141, f2_124, f2_92, f2_87, f2_70, f2_38, f2_0, f3_16, f3_16_2, f3_0, f1_198, f1_284, f1_286, f1_241, f1_179, f1_152, f1_126, f1_286_12, f1_241_11, f1_179_10, f1_152_9, f1_126_8, f1_286_17, f1_241_16, f1_179_15, f1_152_14, f1_126_13, f1_0, own_u8, own_u7, own_u6, own_u5, g0, g1, g2, g3, gx, own_11, own_12, own_13, hl194, hl224, hl240, hg223, hg239, hg244, he224, he237, he240, he244, hm1, hm2, hm3, hk1, hk2, hx2, hx3, hx4, hr1, hr2, hr3, hbb, hab, hcb, hp1, hp3, hp2, hp4, hbc, hac, hcc, own_k00, own_k01, own_k02, own_k03, own_k04, own_k10, own_k11, own_k12, own_k13, own_k14, own_k20, own_k21, own_k22, own_k23, own_k24, own_k30, own_k31, own_k32, own_k33, own_k34, own_k40, own_k41, own_k42, own_k43, own_k44, own_e01, own_e02, own_e03, own_e04, own_e10, own_e12, own_e13, own_e14, own_e20, own_e21, own_e23, own_e24, own_e30, own_e31, own_e32, own_e34, own_e40, own_e41, own_e42, own_e43, ↓reduceIte]
  have hbc : (c &&& 192 = 128) = True := eq_true (by rw [hnc]; omega)
  have hac : (c < 128) = False := eq_false (by rw [own_lt, own_l128]; omega)
  have hcc : (191 < c) = False := eq_false (by rw [own_lt, own_l191]; omega)
  have hne := own_n4 e0 e1
  by_cases ze0 : e.toInt < 128
  · have hbe : (e &&& 192 = 128) = False := eq_false (by rw [hne]; omega)
    have hae : (e < 128) = True := eq_true (by rw [own_lt, own_l128]; omega)
    have hce : (191 < e) = False := eq_false (by rw [own_lt, own_l191]; omega)
    simp only [f2_146, f2_148, f2_141, f2_124, f2_92, f2_87, f2_70, f2_38, f2_0, f3_16, f3_16_2, f3_0, f1_198, f1_284, f1_286, f1_241, f1_179, f1_152, f1_126, f1_286_12, f1_241_11, f1_179_10, f1_152_9, f1_126_8, f1_286_17, f1_241_16, f1_179_15, f1_152_14, f1_126_13, f1_0, own_u8, own_u7, own_u6, own_u5, g0, g1, g2, g3, gx, own_11, own_12, own_13, hl194, hl224, hl240, hg223, hg239, hg244, he224, he237, he240, he244, hm1, hm2, hm3, hk1, hk2, hx2, hx3, hx4, hr1, hr2, hr3, hbb, hab, hcb, hp1, hp3, hp2, hp4, hbc, hac, hcc, hbe, hae, hce, own_k00, own_k01, own_k02, own_k03, own_k04, own_k10, own_k11, own_k12, own_k13, own_k14, own_k20, own_k21, own_k22, own_k23, own_k24, own_k30, own_k31, own_k32, own_k33, own_k34, own_k40, own_k41, own_k42, own_k43, own_k44, own_e01, own_e02, own_e03, own_e04, own_e10, own_e12, own_e13, own_e14, own_e20, own_e21, own_e23, own_e24, own_e30, own_e31, own_e32, own_e34, own_e40, own_e41, own_e42, own_e43, ↓reduceIte]
  by_cases ze1 : 191 < e.toInt
  · have hbe : (e &&& 192 = 128) = False := eq_false (by rw [hne]; omega)
    have hae : (e < 128) = False := eq_false (by rw [own_lt, own_l128]; omega)
    have hce : (191 < e) = True := eq_true (by rw [own_lt, own_l191]; omega)
    simp only [f2_146, f2_148, f2_141, f2_124, f2_92, f2_87, f2_70, f2_38, f2_0, f3_16, f3_16_2, f3_0, f1_198, f1_284, f1_286, f1_241, f1_179, f1_152, f1_126, f1_286_12, f1_241_11, f1_179_10, f1_152_9, f1_126_8, f1_286_17, f1_241_16, f1_179_15, f1_152_14, f1_126_13, f1_0, own_u8, own_u7, own_u6, own_u5, g0, g1, g2, g3, gx, own_11, own_12, own_13, hl194, hl224, hl240, hg223, hg239, hg244, he224, he237, he240, he244, hm1, hm2, hm3, hk1, hk2, hx2, hx3, hx4, hr1, hr2, hr3, hbb, hab, hcb, hp1, hp3, hp2, hp4, hbc, hac, hcc, hbe, hae, hce, own_k00, own_k01, own_k02, own_k03, own_k04, own_k10, own_k11, own_k12, own_k13, own_k14, own_k20, own_k21, own_k22, own_k23, own_k24, own_k30, own_k31, own_k32, own_k33, own_k34, own_k40, own_k41, own_k42, own_k43, own_k44, own_e01, own_e02, own_e03, own_e04, own_e10, own_e12, own_e13, own_e14, own_e20, own_e21, own_e23, own_e24, own_e30, own_e31, own_e32, own_e34, own_e40, own_e41, own_e42, own_e43, ↓reduceIte]
  have hbe : (e &&& 192 = 128) = True := eq_true (by rw [hne]; omega)
  have hae : (e < 128) = False := eq_false (by rw [own_lt, own_l128]; omega)
  have hce : (191 < e) = False := eq_false (by rw [own_lt, own_l191]; omega)
  simp only [f2_146, f2_148, f2_141, f2_124, f2_92, f2_87, f2_70, f2_38, f2_0, f3_16, f3_16_2, f3_0, f1_198, f1_284, f1_286, f1_241, f1_179, f1_152, f1_126, f1_286_12, f1_241_11, f1_179_10, f1_152_9, f1_126_8, f1_286_17, f1_241_16, f1_179_15, f1_152_14, f1_126_13, f1_0, own_u8, own_u7, own_u6, own_u5, g0, g1, g2, g3, gx, own_11, own_12, own_13, hl194, hl224, hl240, hg223, hg239, hg244, he224, he237, he240, he244, hm1, hm2, hm3, hk1, hk2, hx2, hx3, hx4, hr1, hr2, hr3, hbb, hab, hcb, hp1, hp3, hp2, hp4, hbc, hac, hcc, hbe, hae, hce, own_k00, own_k01, own_k02, own_k03, own_k04, own_k10, own_k11, own_k12, own_k13, own_k14, own_k20, own_k21, own_k22, own_k23, own_k24, own_k30, own_k31, own_k32, own_k33, own_k34, own_k40, own_k41, own_k42, own_k43, own_k44, own_e01, own_e02, own_e03, own_e04, own_e10, own_e12, own_e13, own_e14, own_e20, own_e21, own_e23, own_e24, own_e30, own_e31, own_e32, own_e34, own_e40, own_e41, own_e42, own_e43, ↓reduceIte]
theorem own_c10 (v : List Int32) (p q a b c e x : Int32) (g0 : own_get v p &&& 255 = a) (g1 : own_get v (p + 1) &&& 255 = b) (g2 : own_get v (p + 2) &&& 255 = c) (g3 : own_get v (p + 3) &&& 255 = e) (gx : q - p = x) (hq1 : (p + 1 = q) = (x = 1)) (hq2 : (p + 2 = q) = (x = 2)) (hq3 : (p + 3 = q) = (x = 3)) (x1 : 1 ≤ x.toInt) (a0 : 128 ≤ a.toInt) (a1 : a.toInt ≤ 255) (b0 : 0 ≤ b.toInt) (b1 : b.toInt ≤ 255) (c0 : 0 ≤ c.toInt) (c1 : c.toInt ≤ 255) (e0 : 0 ≤ e.toInt) (e1 : e.toInt ≤ 255) (y0 : 244 ≤ a.toInt) (y1 : a.toInt ≤ 244) : f2_0 v p q = f1_0 v p q := by
  have hl194 : (a < 194) = False := eq_false (by rw [own_lt, own_l194]; omega)
  have hl224 : (a < 224) = False := eq_false (by rw [own_lt, own_l224]; omega)
  have hl240 : (a < 240) = False := eq_false (by rw [own_lt, own_l240]; omega)
  have hg223 : (223 < a) = True := eq_true (by rw [own_lt, own_l223]; omega)
  have hg239 : (239 < a) = True := eq_true (by rw [own_lt, own_l239]; omega)
  have hg244 : (244 < a) = False := eq_false (by rw [own_lt, own_l244]; omega)
  have he224 : (a = 224) = False := eq_false (by rw [own_eq, own_l224]; omega)
  have he237 : (a = 237) = False := eq_false (by rw [own_eq, own_l237]; omega)
  have he240 : (a = 240) = False := eq_false (by rw [own_eq, own_l240]; omega)
  have he244 : (a = 244) = True := eq_true (by rw [own_eq, own_l244]; omega)
  have hm1 : (a &&& 224 = 192) = False := eq_false (by rw [own_n1 (by omega) a1]; omega)
  have hm2 : (a &&& 240 = 224) = False := eq_false (by rw [own_n2 (by omega) a1]; omega)
  have hm3 : (a &&& 248 = 240) = True := eq_true (by rw [own_n3 (by omega) a1]; omega)
  have em := Jvm.Kit.i32_mask a 7 (k := 3) (by decide) (by decide)
  have e9 : (own_shl (a &&& 7) 18).toInt = (a &&& 7).toInt * 2 ^ 18 := own_shlI _ _ (k := 18) (by decide) (by omega) (by omega)
  have ea : (own_shl (a &&& 7) 18 + 262143).toInt = (own_shl (a &&& 7) 18).toInt + 262143 := Jvm.Kit.i32_add (by rw [own_l262143]; omega) (by rw [own_l262143]; omega)
  have hk1 : (own_shl (a &&& 7) 18 + 262143 < 65536) = False := eq_false (by rw [own_lt, own_l65536]; omega)
  have hk2 : (1114111 < own_shl (a &&& 7) 18) = False := eq_false (by rw [own_lt, own_l1114111]; omega)
  have eb := Jvm.Kit.i32_mask b 63 (k := 6) (by decide) (by decide)
  have es : (own_shl (b &&& 63) 12).toInt = (b &&& 63).toInt * 2 ^ 12 := own_shlI _ _ (k := 12) (by decide) (by omega) (by omega)
  have ec : (own_shl (a &&& 7) 18 ||| own_shl (b &&& 63) 12).toInt = (own_shl (a &&& 7) 18).toInt + (own_shl (b &&& 63) 12).toInt := own_orI 18 (a &&& 7).toInt.toNat (by omega) (by omega) (by omega) (by omega)
  by_cases z1 : x = 1
  · skip
    have xI : x.toInt = 1 := by rw [z1]; rfl
    have hx2 : (x < 2) = True := eq_true (by rw [own_lt, own_l2]; omega)
    have hx3 : (x < 3) = True := eq_true (by rw [own_lt, own_l3]; omega)
    have hx4 : (x < 4) = True := eq_true (by rw [own_lt, own_l4]; omega)
    have hr1 : (p + 1 = q) = True := by rw [hq1]; exact eq_true (by rw [own_eq, own_l1]; omega)
    have hr2 : (p + 2 = q) = False := by rw [hq2]; exact eq_false (by rw [own_eq, own_l2]; omega)
    have hr3 : (p + 3 = q) = False := by rw [hq3]; exact eq_false (by rw [own_eq, own_l3]; omega)
    simp only [f2_146, f2_148, f2_141, f2_124, f2_92, f2_87, f2_70, f2_38, f2_0, f3_16, f3_16_2, f3_0, f1_198, f1_284, f1_286, f1_241, f1_179, f1_152, f1_126, f1_286_12, f1_241_11, f1_179_10, f1_152_9, f1_126_8, f1_286_17, f1_241_16, f1_179_15, f1_152_14, f1_126_13, f1_0, own_u8, own_u7, own_u6, own_u5, g0, g1, g2, g3, gx, own_11, own_12, own_13, hl194, hl224, hl240, hg223, hg239, hg244, he224, he237, he240, he244, hm1, hm2, hm3, hk1, hk2, hx2, hx3, hx4, hr1, hr2, hr3, own_k00, own_k01, own_k02, own_k03, own_k04, own_k10, own_k11, own_k12, own_k13, own_k14, own_k20, own_k21, own_k22, own_k23, own_k24, own_k30, own_k31, own_k32, own_k33, own_k34, own_k40, own_k41, own_k42, own_k43, own_k44, own_e01, own_e02, own_e03, own_e04, own_e10, own_e12, own_e13, own_e14, own_e20, own_e21, own_e23, own_e24, own_e30, own_e31, own_e32, own_e34, own_e40, own_e41, own_e42, own_e43, ↓reduceIte]
  by_cases z2 : x = 2
  · skip
    have xI : x.toInt = 2 := by rw [z2]; rfl
    have hx2 : (x < 2) = False := eq_false (by rw [own_lt, own_l2]; omega)
    have hx3 : (x < 3) = True := eq_true (by rw [own_lt, own_l3]; omega)
    have hx4 : (x < 4) = True := eq_true (by rw [own_lt, own_l4]; omega)
    have hr1 : (p + 1 = q) = False := by rw [hq1]; exact eq_false (by rw [own_eq, own_l1]; omega)
    have hr2 : (p + 2 = q) = True := by rw [hq2]; exact eq_true (by rw [own_eq, own_l2]; omega)
    have hr3 : (p + 3 = q) = False := by rw [hq3]; exact eq_false (by rw [own_eq, own_l3]; omega)
    have hnb := own_n4 b0 b1
    by_cases zb0 : b.toInt < 128
    · have hbb : (b &&& 192 = 128) = False := eq_false (by rw [hnb]; omega)
      have hab : (b < 128) = True := eq_true (by rw [own_lt, own_l128]; omega)
      have hcb : (143 < b) = False := eq_false (by rw [own_lt, own_l143]; omega)
      simp only [f2_146, f2_148, f2_141, f2_124, f2_92, f2_87, f2_70, f2_38, f2_0, f3_16, f3_16_2, f3_0, f1_198, f1_284, f1_286, f1_241, f1_179, f1_152, f1_126, f1_286_12, f1_241_11, f1_179_10, f1_152_9, f1_126_8, f1_286_17, f1_241_16, f1_179_15, f1_152_14, f1_126_13, f1_0, own_u8, own_u7, own_u6, own_u5, g0, g1, g2, g3, gx, own_11, own_12, own_13, hl194, hl224, hl240, hg223, hg239, hg244, he224, he237, he240, he244, hm1, hm2, hm3, hk1, hk2, hx2, hx3, hx4, hr1, hr2, hr3, hbb, hab, hcb, own_k00, own_k01, own_k02, own_k03, own_k04, own_k10, own_k11, own_k12, own_k13, own_k14, own_k20, own_k21, own_k22, own_k23, own_k24, own_k30, own_k31, own_k32, own_k33, own_k34, own_k40, own_k41, own_k42, own_k43, own_k44, own_e01, own_e02, own_e03, own_e04, own_e10, own_e12, own_e13, own_e14, own_e20, own_e21, own_e23, own_e24, own_e30, own_e31, own_e32, own_e34, own_e40, own_e41, own_e42, own_e43, ↓reduceIte]
    by_cases zb1 : 191 < b.toInt
    · have hbb : (b &&& 192 = 128) = False := eq_false (by rw [hnb]; omega)
      have hab : (b < 128) = False := eq_false (by rw [own_lt, own_l128]; omega)
      have hcb : (143 < b) = True := eq_true (by rw [own_lt, own_l143]; omega)
      simp only [f2_146, f2_148, f2_141, f2_124, f2_92, f2_87, f2_70, f2_38, f2_0, f3_16, f3_16_2, f3_0, f1_198, f1_284, f1_286, f1_241, f1_179, f1_152, f1_126, f1_286_12, f1_241_11, f1_179_10, f1_152_9, f1_126_8, f1_286_17, f1_241_16, f1_179_15, f1_152_14, f1_126_13, f1_0, own_u8, own_u7, own_u6, own_u5, g0, g1, g2, g3, gx, own_11, own_12, own_13, hl194, hl224, hl240, hg223, hg239, hg244, he224, he237, he240, he244, hm1, hm2, hm3, hk1, hk2, hx2, hx3, hx4, hr1, hr2, hr3, hbb, hab, hcb, own_k00, own_k01, own_k02, own_k03, own_k04, own_k10, own_k11, own_k12, own_k13, own_k14, own_k20, own_k21, own_k22, own_k23, own_k24, own_k30, own_k31, own_k32, own_k33, own_k34, own_k40, own_k41, own_k42, own_k43, own_k44, own_e01, own_e02, own_e03, own_e04, own_e10, own_e12, own_e13, own_e14, own_e20, own_e21, own_e23, own_e24, own_e30, own_e31, own_e32, own_e34, own_e40, own_e41, own_e42, own_e43, ↓reduceIte]
    by_cases zb2 : 143 < b.toInt
    · have hbb : (b &&& 192 = 128) = True := eq_true (by rw [hnb]; omega)
      have hab : (b < 128) = False := eq_false (by rw [own_lt, own_l128]; omega)
      have hcb : (143 < b) = True := eq_true (by rw [own_lt, own_l143]; omega)
      have hp1 : (own_shl (a &&& 7) 18 ||| own_shl (b &&& 63) 12 < 65536) = False := eq_false (by rw [own_lt, own_l65536]; omega)
      have hp3 : (own_shl (a &&& 7) 18 ||| own_shl (b &&& 63) 12 < 55296) = False := eq_false (by rw [own_lt, own_l55296]; omega)
      have hp2 : (1114111 < own_shl (a &&& 7) 18 ||| own_shl (b &&& 63) 12) = True := eq_true (by rw [own_lt, own_l1114111]; omega)
      have hp4 : (57343 < own_shl (a &&& 7) 18 ||| own_shl (b &&& 63) 12) = True := eq_true (by rw [own_lt, own_l57343]; omega)
      simp only [f2_146, f2_148, f2_141, f2_124, f2_92, f2_87, f2_70, f2_38, f2_0, f3_16, f3_16_2, f3_0, f1_198, f1_284, f1_286, f1_241, f1_179, f1_152, f1_126, f1_286_12, f1_241_11, f1_179_10, f1_152_9, f1_126_8, f1_286_17, f1_241_16, f1_179_15, f1_152_14, f1_126_13, f1_0, own_u8, own_u7, own_u6, own_u5, g0, g1, g2, g3, gx, own_11, own_12, own_13, hl194, hl224, hl240, hg223, hg239, hg244, he224, he237, he240, he244, hm1, hm2, hm3, hk1, hk2, hx2, hx3, hx4, hr1, hr2, hr3, hbb, hab, hcb, hp1, hp3, hp2, hp4, own_k00, own_k01, own_k02, own_k03, own_k04, own_k10, own_k11, own_k12, own_k13, own_k14, own_k20, own_k21, own_k22, own_k23, own_k24, own_k30, own_k31, own_k32, own_k33, own_k34, own_k40, own_k41, own_k42, own_k43, own_k44, own_e01, own_e02, own_e03, own_e04, own_e10, own_e12, own_e13, own_e14, own_e20, own_e21, own_e23, own_e24, own_e30, own_e31, own_e32, own_e34, own_e40, own_e41, own_e42, own_e43, ↓reduceIte]
    have hbb : (b &&& 192 = 128) = True := eq_true (by rw [hnb]; omega)
    have hab : (b < 128) = False := eq_false (by rw [own_lt, own_l128]; omega)
    have hcb : (143 < b) = False := eq_false (by rw [own_lt, own_l143]; omega)
    have hp1 : (own_shl (a &&& 7) 18 ||| own_shl (b &&& 63) 12 < 65536) = False := eq_false (by rw [own_lt, own_l65536]; omega)
    have hp3 : (own_shl (a &&& 7) 18 ||| own_shl (b &&& 63) 12 < 55296) = False := eq_false (by rw [own_lt, own_l55296]; omega)
    have hp2 : (1114111 < own_shl (a &&& 7) 18 ||| own_shl (b &&& 63) 12) = False := eq_false (by rw [own_lt, own_l1114111]; omega)
    have hp4 : (57343 < own_shl (a &&& 7) 18 ||| own_shl (b &&& 63) 12) = True := eq_true (by rw [own_lt, own_l57343]; omega)
    simp only [f2_146, f2_148, f2_141, f2_124, f2_92, f2_87, f2_70, f2_38, f2_0, f3_16, f3_16_2, f3_0, f1_198, f1_284, f1_286, f1_241, f1_179, f1_152, f1_126, f1_286_12, f1_241_11, f1_179_10, f1_152_9, f1_126_8, f1_286_17, f1_241_16, f1_179_15, f1_152_14, f1_126_13, f1_0, own_u8, own_u7, own_u6, own_u5, g0, g1, g2, g3, gx, own_11, own_12, own_13, hl194, hl224, hl240, hg223, hg239, hg244, he224, he237, he240, he244, hm1, hm2, hm3, hk1, hk2, hx2, hx3, hx4, hr1, hr2, hr3, hbb, hab, hcb, hp1, hp3, hp2, hp4, own_k00, own_k01, own_k02, own_k03, own_k04, own_k10, own_k11, own_k12, own_k13, own_k14, own_k20, own_k21, own_k22, own_k23, own_k24, own_k30, own_k31, own_k32, own_k33, own_k34, own_k40, own_k41, own_k42, own_k43, own_k44, own_e01, own_e02, own_e03, own_e04, own_e10, own_e12, own_e13, own_e14, own_e20, own_e21, own_e23, own_e24, own_e30, own_e31, own_e32, own_e34, own_e40, own_e41, own_e42, own_e43, ↓reduceIte]
  by_cases z3 : x = 3
  · skip
    have xI : x.toInt = 3 := by rw [z3]; rfl
    have hx2 : (x < 2) = False := eq_false (by rw [own_lt, own_l2]; omega)
    have hx3 : (x < 3) = False := eq_false (by rw [own_lt, own_l3]; omega)
    have hx4 : (x < 4) = True := eq_true (by rw [own_lt, own_l4]; omega)
    have hr1 : (p + 1 = q) = False := by rw [hq1]; exact eq_false (by rw [own_eq, own_l1]; omega)
    have hr2 : (p + 2 = q) = False := by rw [hq2]; exact eq_false (by rw [own_eq, own_l2]; omega)
    have hr3 : (p + 3 = q) = True := by rw [hq3]; exact eq_true (by rw [own_eq, own_l3]; omega)
    have hnb := own_n4 b0 b1
    by_cases zb0 : b.toInt < 128
    · have hbb : (b &&& 192 = 128) = False := eq_false (by rw [hnb]; omega)
      have hab : (b < 128) = True := eq_true (by rw [own_lt, own_l128]; omega)
      have hcb : (143 < b) = False := eq_false (by rw [own_lt, own_l143]; omega)
      simp only [f2_146, f2_148, f2_141, f2_124, f2_92, f2_87, f2_70, f2_38, f2_0, f3_16, f3_16_2, f3_0, f1_198, f1_284, f1_286, f1_241, f1_179, f1_152, f1_126, f1_286_12, f1_241_11, f1_179_10, f1_152_9, f1_126_8, f1_286_17, f1_241_16, f1_179_15, f1_152_14, f1_126_13, f1_0, own_u8, own_u7, own_u6, own_u5, g0, g1, g2, g3, gx, own_11, own_12, own_13, hl194, hl224, hl240, hg223, hg239, hg244, he224, he237, he240, he244, hm1, hm2, hm3, hk1, hk2, hx2, hx3, hx4, hr1, hr2, hr3, hbb, hab, hcb, own_k00, own_k01, own_k02, own_k03, own_k04, own_k10, own_k11, own_k12, own_k13, own_k14, own_k20, own_k21, own_k22, own_k23, own_k24, own_k30, own_k31, own_k32, own_k33, own_k34, own_k40, own_k41, own_k42, own_k43, own_k44, own_e01, own_e02, own_e03, own_e04, own_e10, own_e12, own_e13, own_e14, own_e20, own_e21, own_e23, own_e24, own_e30, own_e31, own_e32, own_e34, own_e40, own_e41, own_e42, own_e43, ↓reduceIte]
    by_cases zb1 : 191 < b.toInt
    · have hbb : (b &&& 192 = 128) = False := eq_false (by rw [hnb]; omega)
      have hab : (b < 128) = False := eq_false (by rw [own_lt, own_l128]; omega)
      have hcb : (143 < b) = True := eq_true (by rw [own_lt, own_l143]; omega)
      simp only [f2_146, f2_148, f2_141, f2_124, f2_92, f2_87, f2_70, f2_38, f2_0, f3_16, f3_16_2, f3_0, f1_198, f1_284, f1_286, f1_241, f1_179, f1_152, f1_126, f1_286_12, f1_241_11, f1_179_10, f1_152_9, f1_126_8, f1_286_17, f1_241_16, f1_179_15, f1_152_14, f1_126_13, f1_0, own_u8, own_u7, own_u6, own_u5, g0, g1, g2, g3, gx, own_11, own_12, own_13, hl194, hl224, hl240, hg223, hg239, hg244, he224, he237, he240, he244, hm1, hm2, hm3, hk1, hk2, hx2, hx3, hx4, hr1, hr2, hr3, hbb, hab, hcb, own_k00, own_k01, own_k02, own_k03, own_k04, own_k10, own_k11, own_k12, own_k13, own_k14, own_k20, own_k21, own_k22, own_k23, own_k24, own_k30, own_k31, own_k32, own_k33, own_k34, own_k40, own_k41, own_k42, own_k43, own_k44, own_e01, own_e02, own_e03, own_e04, own_e10, own_e12, own_e13, own_e14, own_e20, own_e21, own_e23, own_e24, own_e30, own_e31, own_e32, own_e34, own_e40, own_e41, own_e42, own_e43, ↓reduceIte]
    by_cases zb2 : 143 < b.toInt
    · have hbb : (b &&& 192 = 128) = True := eq_true (by rw [hnb]; omega)
      have hab : (b < 128) = False := eq_false (by rw [own_lt, own_l128]; omega)
      have hcb : (143 < b) = True := eq_true (by rw [own_lt, own_l143]; omega)
      have hp1 : (own_shl (a &&& 7) 18 ||| own_shl (b &&& 63) 12 < 65536) = False := eq_false (by rw [own_lt, own_l65536]; omega)
      have hp3 : (own_shl (a &&& 7) 18 ||| own_shl (b &&& 63) 12 < 55296) = False := eq_false (by rw [own_lt, own_l55296]; omega)
      have hp2 : (1114111 < own_shl (a &&& 7) 18 ||| own_shl (b &&& 63) 12) = True := eq_true (by rw [own_lt, own_l1114111]; omega)
      have hp4 : (57343 < own_shl (a &&& 7) 18 ||| own_shl (b &&& 63) 12) = True := eq_true (by rw [own_lt, own_l57343]; omega)
      simp only [f2_146, f2_148, f2_141, f2_124, f2_92, f2_87, f2_70, f2_38, f2_0, f3_16, f3_16_2, f3_0, f1_198, f1_284, f1_286, f1_241, f1_179, f1_152, f1_126, f1_286_12, f1_241_11, f1_179_10, f1_152_9, f1_126_8, f1_286_17, f1_241_16, f1_179_15, f1_152_14, f1_126_13, f1_0, own_u8, own_u7, own_u6, own_u5, g0, g1, g2, g3, gx, own_11, own_12, own_13, hl194, hl224, hl240, hg223, hg239, hg244, he224, he237, he240, he244, hm1, hm2, hm3, hk1, hk2, hx2, hx3, hx4, hr1, hr2, hr3, hbb, hab, hcb, hp1, hp3, hp2, hp4, own_k00, own_k01, own_k02, own_k03, own_k04, own_k10, own_k11, own_k12, own_k13, own_k14, own_k20, own_k21, own_k22, own_k23, own_k24, own_k30, own_k31, own_k32, own_k33, own_k34, own_k40, own_k41, own_k42, own_k43, own_k44, own_e01, own_e02, own_e03, own_e04, own_e10, own_e12, own_e13, own_e14, own_e20, own_e21, own_e23, own_e24, own_e30, own_e31, own_e32, own_e34, own_e40, own_e41, own_e42, own_e43, ↓reduceIte]
    have hbb : (b &&& 192 = 128) = True := eq_true (by rw [hnb]; omega)
    have hab : (b < 128) = False := eq_false (by rw [own_lt, own_l128]; omega)
    have hcb : (143 < b) = False := eq_false (by rw [own_lt, own_l143]; omega)
    have hp1 : (own_shl (a &&& 7) 18 ||| own_shl (b &&& 63) 12 < 65536) = False := eq_false (by rw [own_lt, own_l65536]; omega)
    have hp3 : (own_shl (a &&& 7) 18 ||| own_shl (b &&& 63) 12 < 55296) = False := eq_false (by rw [own_lt, own_l55296]; omega)
    have hp2 : (1114111 < own_shl (a &&& 7) 18 ||| own_shl (b &&& 63) 12) = False := eq_false (by rw [own_lt, own_l1114111]; omega)
    have hp4 : (57343 < own_shl (a &&& 7) 18 ||| own_shl (b &&& 63) 12) = True := eq_true (by rw [own_lt, own_l57343]; omega)
    have hnc := own_n4 c0 c1
    by_cases zc0 : c.toInt < 128
    · have hbc : (c &&& 192 = 128) = False := eq_false (by rw [hnc]; omega)
      have hac : (c < 128) = True := eq_true (by rw [own_lt, own_l128]; omega)
      have hcc : (191 < c) = False := eq_false (by rw [own_lt, own_l191]; omega)
      simp only [f2_146, f2_148, f2_141, f2_124, f2_92, f2_87, f2_70, f2_38, f2_0, f3_16, f3_16_2, f3_0, f1_198, f1_284, f1_286, f1_241, f1_179, f1_152, f1_126, f1_286_12, f1_241_11, f1_179_10, f1_152_9, f1_126_8, f1_286_17, f1_241_16, f1_179_15, f1_152_14, f1_126_13, f1_0, own_u8, own_u7, own_u6, own_u5, g0, g1, g2, g3, gx, own_11, own_12, own_13, hl194, hl224, hl240, hg223, hg239, hg244, he224, he237, he240, he244, hm1, hm2, hm3, hk1, hk2, hx2, hx3, hx4, hr1, hr2, hr3, hbb, hab, hcb, hp1, hp3, hp2, hp4, hbc, hac, hcc, own_k00, own_k01, own_k02, own_k03, own_k04, own_k10, own_k11, own_k12, own_k13, own_k14, own_k20, own_k21, own_k22, own_k23, own_k24, own_k30, own_k31, own_k32, own_k33, own_k34, own_k40, own_k41, own_k42, own_k43, own_k44, own_e01, own_e02, own_e03, own_e04, own_e10, own_e12, own_e13, own_e14, own_e20, own_e21, own_e23, own_e24, own_e30, own_e31, own_e32, own_e34, own_e40, own_e41, own_e42, own_e43, ↓reduceIte]
    by_cases zc1 : 191 < c.toInt
    · have hbc : (c &&& 192 = 128) = False := eq_false (by rw [hnc]; omega)
      have hac : (c < 128) = False := eq_false (by rw [own_lt, own_l128]; omega)
      have hcc : (191 < c) = True := eq_true (by rw [own_lt, own_l191]; omega)
      simp only [f2_146, f2_148, f2_141, f2_124, f2_92, f2_87, f2_70, f2_38, f2_0, f3_16, f3_16_2, f3_0, f1_198, f1_284, f1_286, f1_241, f1_179, f1_152, f1_126, f1_286_12, f1_241_11, f1_179_10, f1_152_9, f1_126_8, f1_286_17, f1_241_16, f1_179_15, f1_152_14, f1_126_13, f1_0, own_u8, own_u7, own_u6, own_u5, g0, g1, g2, g3, gx, own_11, own_12, own_13, hl194, hl224, hl240, hg223, hg239, hg244, he224, he237, he240, he244, hm1, hm2, hm3, hk1, hk2, hx2, hx3, hx4, hr1, hr2, hr3, hbb, hab, hcb, hp1, hp3, hp2, hp4, hbc, hac, hcc, own_k00, own_k01, own_k02, own_k03, own_k04, own_k10, own_k11, own_k12, own_k13, own_k14, own_k20, own_k21, own_k22, own_k23, own_k24, own_k30, own_k31, own_k32, own_k33, own_k34, own_k40, own_k41, own_k42, own_k43, own_k44, own_e01, own_e02, own_e03, own_e04, own_e10, own_e12, own_e13, own_e14, own_e20, own_e21, own_e23, own_e24, own_e30, own_e31, own_e32, own_e34, own_e40, own_e41, own_e42, own_e43, ↓reduceIte]
    have hbc : (c &&& 192 = 128) = True := eq_true (by rw [hnc]; omega)
    have hac : (c < 128) = False := eq_false (by rw [own_lt, own_l128]; omega)
    have hcc : (191 < c) = False := eq_false (by rw [own_lt, own_l191]; omega)
    simp only [f2_146, f2_148, f2_141, f2_124, f2_92, f2_87, f2_70, f2_38, f2_0, f3_16, f3_16_2, f3_0, f1_198, f1_284, f1_286, f1_241, f1_179, f1_152, f1_126, f1_286_12, f1_241_11, f1_179_10, f1_152_9, f1_126_8, f1_286_17, f1_241_16, f1_179_15, f1_152_14, f1_126_13, f1_0, own_u8, own_u7, own_u6, own_u5, g0, g1, g2, g3, gx, own_11, own_12, own_13, hl194, hl224, hl240, hg223, hg239, hg244, he224, he237, he240, he244, hm1, hm2, hm3, hk1, hk2, hx2, hx3, hx4, hr1, hr2, hr3, hbb, hab, hcb, hp1, hp3, hp2, hp4, hbc, hac, hcc, own_k00, own_k01, own_k02, own_k03, own_k04, own_k10, own_k11, own_k12, own_k13, own_k14, own_k20, own_k21, own_k22, own_k23, own_k24, own_k30, own_k31, own_k32, own_k33, own_k34, own_k40, own_k41, own_k42, own_k43, own_k44, own_e01, own_e02, own_e03, own_e04, own_e10, own_e12, own_e13, own_e14, own_e20, own_e21, own_e23, own_e24, own_e30, own_e31, own_e32, own_e34, own_e40, own_e41, own_e42, own_e43, ↓reduceIte]
  have xI : 4 ≤ x.toInt := by rw [own_eq, own_l1] at z1; rw [own_eq, own_l2] at z2; rw [own_eq, own_l3] at z3; omega
  have hx2 : (x < 2) = False := eq_false (by rw [own_lt, own_l2]; omega)
  have hx3 : (x < 3) = False := eq_false (by rw [own_lt, own_l3]; omega)
  have hx4 : (x < 4) = False := eq_false (by rw [own_lt, own_l4]; omega)
  have hr1 : (p + 1 = q) = False := by rw [hq1]; exact eq_false (by rw [own_eq, own_l1]; omega)
  have hr2 : (p + 2 = q) = False := by rw [hq2]; exact eq_false (by rw [own_eq, own_l2]; omega)
  have hr3 : (p + 3 = q) = False := by rw [hq3]; exact eq_false (by rw [own_eq, own_l3]; omega)
  have hnb := own_n4 b0 b1
  by_cases zb0 : b.toInt < 128
  · have hbb : (b &&& 192 = 128) = False := eq_false (by rw [hnb]; omega)
    have hab : (b < 128) = True := eq_true (by rw [own_lt, own_l128]; omega)
    have hcb : (143 < b) = False := eq_false (by rw [own_lt, own_l143]; omega)
    simp only [f2_146, f2_148, f2_141, f2_124, f2_92, f2_87, f2_70, f2_38, f2_0, f3_16, f3_16_2, f3_0, f1_198, f1_284, f1_286, f1_241, f1_179, f1_152, f1_126, f1_286_12, f1_241_11, f1_179_10, f1_152_9, f1_126_8, f1_286_17, f1_241_16, f1_179_15, f1_152_14, f1_126_13, f1_0, own_u8, own_u7, own_u6, own_u5, g0, g1, g2, g3, gx, own_11, own_12, own_13, hl194, hl224, hl240, hg223, hg239, hg244, he224, he237, he240, he244, hm1, hm2, hm3, hk1, hk2, hx2, hx3, hx4, hr1, hr2, hr3, hbb, hab, hcb, own_k00, own_k01, own_k02, own_k03, own_k04, own_k10, own_k11, own_k12, own_k13, own_k14, own_k20, own_k21, own_k22, own_k23, own_k24, own_k30, own_k31, own_k32, own_k33, own_k34, own_k40, own_k41, own_k42, own_k43, own_k44, own_e01, own_e02, own_e03, own_e04, own_e10, own_e12, own_e13, own_e14, own_e20, own_e21, own_e23, own_e24, own_e30, own_e31, own_e32, own_e34, own_e40, own_e41, own_e42, own_e43, ↓reduceIte]
  by_cases zb1 : 191 < b.toInt
  · have hbb : (b &&& 192 = 128) = False := eq_false (by rw [hnb]; omega)
    have hab : (b < 128) = False := eq_false (by rw [own_lt, own_l128]; omega)
    have hcb : (143 < b) = True := eq_true (by rw [own_lt, own_l143]; omega)
    simp only [f2_146, f2_148, f2_141, f2_124, f2_92, f2_87, f2_70, f2_38, f2_0, f3_16, f3_16_2, f3_0, f1_198, f1_284, f1_286, f1_241, f1_179, f1_152, f1_126, f1_286_12, f1_241_11, f1_179_10, f1_152_9, f1_126_8, f1_286_17, f1_241_16, f1_179_15, f1_152_14, f1_126_13, f1_0, own_u8, own_u7, own_u6, own_u5, g0, g1, g2, g3, gx, own_11, own_12, own_13, hl194, hl224, hl240, hg223, hg239, hg244, he224, he237, he240, he244, hm1, hm2, hm3, hk1, hk2, hx2, hx3, hx4, hr1, hr2, hr3, hbb, hab, hcb, own_k00, own_k01, own_k02, own_k03, own_k04, own_k10, own_k11, own_k12, own_k13, own_k14, own_k20, own_k21, own_k22, own_k23, own_k24, own_k30, own_k31, own_k32, own_k33, own_k34, own_k40, own_k41, own_k42, own_k43, own_k44, own_e01, own_e02, own_e03, own_e04, own_e10, own_e12, own_e13, own_e14, own_e20, own_e21, own_e23, own_e24, own_e30, own_e31, own_e32, own_e34, own_e40, own_e41, own_e42, own_e43, ↓reduceIte]
  by_cases zb2 : 143 < b.toInt
  · have hbb : (b &&& 192 = 128) = True := eq_true (by rw [hnb]; omega)
    have hab : (b < 128) = False := eq_false (by rw [own_lt, own_l128]; omega)
    have hcb : (143 < b) = True := eq_true (by rw [own_lt, own_l143]; omega)
    have hp1 : (own_shl (a &&& 7) 18 ||| own_shl (b &&& 63) 12 < 65536) = False := eq_false (by rw [own_lt, own_l65536]; omega)
    have hp3 : (own_shl (a &&& 7) 18 ||| own_shl (b &&& 63) 12 < 55296) = False := eq_false (by rw [own_lt, own_l55296]; omega)
    have hp2 : (1114111 < own_shl (a &&& 7) 18 ||| own_shl (b &&& 63) 12) = True := eq_true (by rw [own_lt, own_l1114111]; omega)
    have hp4 : (57343 < own_shl (a &&& 7) 18 ||| own_shl (b &&& 63) 12) = True := eq_true (by rw [own_lt, own_l57343]; omega)
    simp only [f2_146, f2_148, f2_141, f2_124, f2_92, f2_87, f2_70, f2_38, f2_0, f3_16, f3_16_2, f3_0, f1_198, f1_284, f1_286, f1_241, f1_179, f1_152, f1_126, f1_286_12, f1_241_11, f1_179_10, f1_152_9, f1_126_8, f1_286_17, f1_241_16, f1_179_15, f1_152_14, f1_126_13, f1_0, own_u8, own_u7, own_u6, own_u5, g0, g1, g2, g3, gx, own_11, own_12, own_13, hl194, hl224, hl240, hg223, hg239, hg244, he224, he237, he240, he244, hm1, hm2, hm3, hk1, hk2, hx2, hx3, hx4, hr1, hr2, hr3, hbb, hab, hcb, hp1, hp3, hp2, hp4, own_k00, own_k01, own_k02, own_k03, own_k04, own_k10, own_k11, own_k12, own_k13, own_k14, own_k20, own_k21, own_k22, own_k23, own_k24, own_k30, own_k31, own_k32, own_k33, own_k34, own_k40, own_k41, own_k42, own_k43, own_k44, own_e01, own_e02, own_e03, own_e04, own_e10, own_e12, own_e13, own_e14, own_e20, own_e21, own_e23, own_e24, own_e30, own_e31, own_e32, own_e34, own_e40, own_e41, own_e42, own_e43, ↓reduceIte]
  have hbb : (b &&& 192 = 128) = True := eq_true (by rw [hnb]; omega)
  have hab : (b < 128) = False := eq_false (by rw [own_lt, own_l128]; omega)
  have hcb : (143 < b) = False := eq_false (by rw [own_lt, own_l143]; omega)
  have hp1 : (own_shl (a &&& 7) 18 ||| own_shl (b &&& 63) 12 < 65536) = False := eq_false (by rw [own_lt, own_l65536]; omega)
  have hp3 : (own_shl (a &&& 7) 18 ||| own_shl (b &&& 63) 12 < 55296) = False := eq_false (by rw [own_lt, own_l55296]; omega)
  have hp2 : (1114111 < own_shl (a &&& 7) 18 ||| own_shl (b &&& 63) 12) = False := eq_false (by rw [own_lt, own_l1114111]; omega)
  have hp4 : (57343 < own_shl (a &&& 7) 18 ||| own_shl (b &&& 63) 12) = True := eq_true (by rw [own_lt, own_l57343]; omega)
  have hnc := own_n4 c0 c1
  by_cases zc0 : c.toInt < 128
  · have hbc : (c &&& 192 = 128) = False := eq_false (by rw [hnc]; omega)
    have hac : (c < 128) = True := eq_true (by rw [own_lt, own_l128]; omega)
    have hcc : (191 < c) = False := eq_false (by rw [own_lt, own_l191]; omega)
    simp only [f2_146, f2_148, f2_141, f2_124, f2_92, f2_87, f2_70, f2_38, f2_0, f3_16, f3_16_2, f3_0, f1_198, f1_284, f1_286, f1_241, f1_179, f1_152, f1_126, f1_286_12, f1_241_11, f1_179_10, f1_152_9, f1_126_8, f1_286_17, f1_241_16, f1_179_15, f1_152_14, f1_126_13, f1_0, own_u8, own_u7, own_u6, own_u5, g0, g1, g2, g3, gx, own_11, own_12, own_13, hl194, hl224, hl240, hg223, hg239, hg244, he224, he237, he240, he244, hm1, hm2, hm3, hk1, hk2, hx2, hx3, hx4, hr1, hr2, hr3, hbb, hab, hcb, hp1, hp3, hp2, hp4, hbc, hac, hcc, own_k00, own_k01, own_k02, own_k03, own_k04, own_k10, own_k11, own_k12, own_k13, own_k14, own_k20, own_k21, own_k22, own_k23, own_k24, own_k30, own_k31, own_k32, own_k33, own_k34, own_k40, own_k41, own_k42, own_k43, own_k44, own_e01, own_e02, own_e03, own_e04, own_e10, own_e12, own_e13, own_e14, own_e20, own_e21, own_e23, own_e24, own_e30, own_e31, own_e32, own_e34, own_e40, own_e41, own_e42, own_e43, ↓reduceIte]
  by_cases zc1 : 191 < c.toInt
  · have hbc : (c &&& 192 = 128) = False := eq_false (by rw [hnc]; omega)
    have hac : (c < 128) = False := eq_false (by rw [own_lt, own_l128]; omega)
    have hcc : (191 < c) = True := eq_true (by rw [own_lt, own_l191]; omega)
    simp only [f2_146, f2_148, f2_141, f2_124, f2_92, f2_87, f2_70, f2_38, f2_0, f3_16, f3_16_2, f3_0, f1_198, f1_284, f1_286, f1_241, f1_179, f1_152, f1_126, f1_286_12, f1_241_11, f1_179_10, f1_152_9, f1_126_8, f1_286_17, f1_241_16, f1_179_15, f1_152_14, f1_126_13, f1_0, own_u8, own_u7, own_u6, own_u5, g0, g1, g2, g3, gx, own_11, own_12, own_13, hl194, hl224, hl240, hg223, hg239, hg244, he224, he237, he240, he244, hm1, hm2, hm3, hk1, hk2, hx2, hx3, hx4, hr1, hr2, hr3, hbb, hab, hcb, hp1, hp3, hp2, hp4, hbc, hac, hcc, own_k00, own_k01, own_k02, own_k03, own_k04, own_k10, own_k11, own_k12, own_k13, own_k14, own_k20, own_k21, own_k22, own_k23, own_k24, own_k30, own_k31, own_k32, own_k33, own_k34, own_k40, own_k41, own_k42, own_k43, own_k44, own_e01, own_e02, own_e03, own_e04, own_e10, own_e12, own_e13, own_e14, own_e20, own_e21, own_e23, own_e24, own_e30, own_e31, own_e32, own_e34, own_e40, own_e41, own_e42, own_e43, ↓reduceIte]
  have hbc : (c &&& 192 = 128) = True := eq_true (by rw [hnc]; omega)
  have hac : (c < 128) = False := eq_false (by rw [own_lt, own_l128]; omega)
  have hcc : (191 < c) = False := eq_false (by rw [own_lt, own_l191]; omega)
  have hne := own_n4 e0 e1
  by_cases ze0 : e.toInt < 128
  · have hbe : (e &&& 192 = 128) = False := eq_false (by rw [hne]; omega)
    have hae : (e < 128) = True := eq_true (by rw [own_lt, own_l128]; omega)
    have hce : (191 < e) = False := eq_false (by rw [own_lt, own_l191]; omega)
    simp only [f2_146, f2_148, f2_141, f2_124, f2_92, f2_87, f2_70, f2_38, f2_0, f3_16, f3_16_2, f3_0, f1_198, f1_284, f1_286, f1_241, f1_179, f1_152, f1_126, f1_286_12, f1_241_11, f1_179_10, f1_152_9, f1_126_8, f1_286_17, f1_241_16, f1_179_15, f1_152_14, f1_126_13, f1_0, own_u8, own_u7, own_u6, own_u5, g0, g1, g2, g3, gx, own_11, own_12, own_13, hl194, hl224, hl240, hg223, hg239, hg244, he224, he237, he240, he244, hm1, hm2, hm3, hk1, hk2, hx2, hx3, hx4, hr1, hr2, hr3, hbb, hab, hcb, hp1, hp3, hp2, hp4, hbc, hac, hcc, hbe, hae, hce, own_k00, own_k01, own_k02, own_k03, own_k04, own_k10, own_k11, own_k12, own_k13, own_k14, own_k20, own_k21, own_k22, own_k23, own_k24, own_k30, own_k31, own_k32, own_k33, own_k34, own_k40, own_k41, own_k42, own_k43, own_k44, own_e01, own_e02, own_e03, own_e04, own_e10, own_e12, own_e13, own_e14, own_e20, own_e21, own_e23, own_e24, own_e30, own_e31, own_e32, own_e34, own_e40, own_e41, own_e42, own_e43, ↓reduceIte]
  by_cases ze1 : 191 < e.toInt
  · have hbe : (e &&& 192 = 128) = False := eq_false (by rw [hne]; omega)
    have hae : (e < 128) = False := eq_false (by rw [own_lt, own_l128]; omega)
    have hce : (191 < e) = True := eq_true (by rw [own_lt, own_l191]; omega)
    simp only [f2_146, f2_148, f2_141, f2_124, f2_92, f2_87, f2_70, f2_38, f2_0, f3_16, f3_16_2, f3_0, f1_198, f1_284, f1_286, f1_241, f1_179, f1_152, f1_126, f1_286_12, f1_241_11, f1_179_10, f1_152_9, f1_126_8, f1_286_17, f1_241_16, f1_179_15, f1_152_14, f1_126_13, f1_0, own_u8, own_u7, own_u6, own_u5, g0, g1, g2, g3, gx, own_11, own_12, own_13, hl194, hl224, hl240, hg223, hg239, hg244, he224, he237, he240, he244, hm1, hm2, hm3, hk1, hk2, hx2, hx3, hx4, hr1, hr2, hr3, hbb, hab, hcb, hp1, hp3, hp2, hp4, hbc, hac, hcc, hbe, hae, hce, own_k00, own_k01, own_k02, own_k03, own_k04, own_k10, own_k11, own_k12, own_k13, own_k14, own_k20, own_k21, own_k22, own_k23, own_k24, own_k30, own_k31, own_k32, own_k33, own_k34, own_k40, own_k41, own_k42, own_k43, own_k44, own_e01, own_e02, own_e03, own_e04, own_e10, own_e12, own_e13, own_e14, own_e20, own_e21, own_e23, own_e24, own_e30, own_e31, own_e32, own_e34, own_e40, own_e41, own_e42, own_e43, ↓reduceIte]
  have hbe : (e &&& 192 = 128) = True := eq_true (by rw [hne]; omega)
  have hae : (e < 128) = False := eq_false (by rw [own_lt, own_l128]; omega)
  have hce : (191 < e) = False := eq_false (by rw [own_lt, own_l191]; omega)
  simp only [f2_146, f2_148, f2_141, f2_124, f2_92, f2_87, f2_70, f2_38, f2_0, f3_16, f3_16_2, f3_0, f1_198, f1_284, f1_286, f1_241, f1_179, f1_152, f1_126, f1_286_12, f1_241_11, f1_179_10, f1_152_9, f1_126_8, f1_286_17, f1_241_16, f1_179_15, f1_152_14, f1_126_13, f1_0, own_u8, own_u7, own_u6, own_u5, g0, g1, g2, g3, gx, own_11, own_12, own_13, hl194, hl224, hl240, hg223, hg239, hg244, he224, he237, he240, he244, hm1, hm2, hm3, hk1, hk2, hx2, hx3, hx4, hr1, hr2, hr3, hbb, hab, hcb, hp1, hp3, hp2, hp4, hbc, hac, hcc, hbe, hae, hce, own_k00, own_k01, own_k02, own_k03, own_k04, own_k10, own_k11, own_k12, own_k13, own_k14, own_k20, own_k21, own_k22, own_k23, own_k24, own_k30, own_k31, own_k32, own_k33, own_k34, own_k40, own_k41, own_k42, own_k43, own_k44, own_e01, own_e02, own_e03, own_e04, own_e10, own_e12, own_e13, own_e14, own_e20, own_e21, own_e23, own_e24, own_e30, own_e31, own_e32, own_e34, own_e40, own_e41, own_e42, own_e43, ↓reduceIte]
theorem own_c11 (v : List Int32) (p q a b c e x : Int32) (g0 : own_get v p &&& 255 = a) (g1 : own_get v (p + 1) &&& 255 = b) (g2 : own_get v (p + 2) &&& 255 = c) (g3 : own_get v (p + 3) &&& 255 = e) (gx : q - p = x) (hq1 : (p + 1 = q) = (x = 1)) (hq2 : (p + 2 = q) = (x = 2)) (hq3 : (p + 3 = q) = (x = 3)) (x1 : 1 ≤ x.toInt) (a0 : 128 ≤ a.toInt) (a1 : a.toInt ≤ 255) (b0 : 0 ≤ b.toInt) (b1 : b.toInt ≤ 255) (c0 : 0 ≤ c.toInt) (c1 : c.toInt ≤ 255) (e0 : 0 ≤ e.toInt) (e1 : e.toInt ≤ 255) (y0 : 245 ≤ a.toInt) (y1 : a.toInt ≤ 247) : f2_0 v p q = f1_0 v p q := by
  have hl194 : (a < 194) = False := eq_false (by rw [own_lt, own_l194]; omega)
  have hl224 : (a < 224) = False := eq_false (by rw [own_lt, own_l224]; omega)
  have hl240 : (a < 240) = False := eq_false (by rw [own_lt, own_l240]; omega)
  have hg223 : (223 < a) = True := eq_true (by rw [own_lt, own_l223]; omega)
  have hg239 : (239 < a) = True := eq_true (by rw [own_lt, own_l239]; omega)
  have hg244 : (244 < a) = True := eq_true (by rw [own_lt, own_l244]; omega)
  have he224 : (a = 224) = False := eq_false (by rw [own_eq, own_l224]; omega)
  have he237 : (a = 237) = False := eq_false (by rw [own_eq, own_l237]; omega)
  have he240 : (a = 240) = False := eq_false (by rw [own_eq, own_l240]; omega)
  have he244 : (a = 244) = False := eq_false (by rw [own_eq, own_l244]; omega)
  have hm1 : (a &&& 224 = 192) = False := eq_false (by rw [own_n1 (by omega) a1]; omega)
  have hm2 : (a &&& 240 = 224) = False := eq_false (by rw [own_n2 (by omega) a1]; omega)
  have hm3 : (a &&& 248 = 240) = True := eq_true (by rw [own_n3 (by omega) a1]; omega)
  have em := Jvm.Kit.i32_mask a 7 (k := 3) (by decide) (by decide)
  have e9 : (own_shl (a &&& 7) 18).toInt = (a &&& 7).toInt * 2 ^ 18 := own_shlI _ _ (k := 18) (by decide) (by omega) (by omega)
  have ea : (own_shl (a &&& 7) 18 + 262143).toInt = (own_shl (a &&& 7) 18).toInt + 262143 := Jvm.Kit.i32_add (by rw [own_l262143]; omega) (by rw [own_l262143]; omega)
  have hk1 : (own_shl (a &&& 7) 18 + 262143 < 65536) = False := eq_false (by rw [own_lt, own_l65536]; omega)
  have hk2 : (1114111 < own_shl (a &&& 7) 18) = True := eq_true (by rw [own_lt, own_l1114111]; omega)
  simp only [f2_146, f2_148, f2_141, f2_124, f2_92, f2_87, f2_70, f2_38, f2_0, f3_16, f3_16_2, f3_0, f1_198, f1_284, f1_286, f1_241, f1_179, f1_152, f1_126, f1_286_12, f1_241_11, f1_179_10, f1_152_9, f1_126_8, f1_286_17, f1_241_16, f1_179_15, f1_152_14, f1_126_13, f1_0, own_u8, own_u7, own_u6, own_u5, g0, g1, g2, g3, gx, own_11, own_12, own_13, hl194, hl224, hl240, hg223, hg239, hg244, he224, he237, he240, he244, hm1, hm2, hm3, hk1, hk2, own_k00, own_k01, own_k02, own_k03, own_k04, own_k10, own_k11, own_k12, own_k13, own_k14, own_k20, own_k21, own_k22, own_k23, own_k24, own_k30, own_k31, own_k32, own_k33, own_k34, own_k40, own_k41, own_k42, own_k43, own_k44, own_e01, own_e02, own_e03, own_e04, own_e10, own_e12, own_e13, own_e14, own_e20, own_e21, own_e23, own_e24, own_e30, own_e31, own_e32, own_e34, own_e40, own_e41, own_e42, own_e43, ↓reduceIte]
theorem own_c12 (v : List Int32) (p q a b c e x : Int32) (g0 : own_get v p &&& 255 = a) (g1 : own_get v (p + 1) &&& 255 = b) (g2 : own_get v (p + 2) &&& 255 = c) (g3 : own_get v (p + 3) &&& 255 = e) (gx : q - p = x) (hq1 : (p + 1 = q) = (x = 1)) (hq2 : (p + 2 = q) = (x = 2)) (hq3 : (p + 3 = q) = (x = 3)) (x1 : 1 ≤ x.toInt) (a0 : 128 ≤ a.toInt) (a1 : a.toInt ≤ 255) (b0 : 0 ≤ b.toInt) (b1 : b.toInt ≤ 255) (c0 : 0 ≤ c.toInt) (c1 : c.toInt ≤ 255) (e0 : 0 ≤ e.toInt) (e1 : e.toInt ≤ 255) (y0 : 248 ≤ a.toInt) (y1 : a.toInt ≤ 255) : f2_0 v p q = f1_0 v p q := by
  have hl194 : (a < 194) = False := eq_false (by rw [own_lt, own_l194]; omega)
  have hl224 : (a < 224) = False := eq_false (by rw [own_lt, own_l224]; omega)
  have hl240 : (a < 240) = False := eq_false (by rw [own_lt, own_l240]; omega)
  have hg223 : (223 < a) = True := eq_true (by rw [own_lt, own_l223]; omega)
  have hg239 : (239 < a) = True := eq_true (by rw [own_lt, own_l239]; omega)
  have hg244 : (244 < a) = True := eq_true (by rw [own_lt, own_l244]; omega)
  have he224 : (a = 224) = False := eq_false (by rw [own_eq, own_l224]; omega)
  have he237 : (a = 237) = False := eq_false (by rw [own_eq, own_l237]; omega)
  have he240 : (a = 240) = False := eq_false (by rw [own_eq, own_l240]; omega)
  have he244 : (a = 244) = False := eq_false (by rw [own_eq, own_l244]; omega)
  have hm1 : (a &&& 224 = 192) = False := eq_false (by rw [own_n1 (by omega) a1]; omega)
  have hm2 : (a &&& 240 = 224) = False := eq_false (by rw [own_n2 (by omega) a1]; omega)
  have hm3 : (a &&& 248 = 240) = False := eq_false (by rw [own_n3 (by omega) a1]; omega)
  simp only [f2_146, f2_148, f2_141, f2_124, f2_92, f2_87, f2_70, f2_38, f2_0, f3_16, f3_16_2, f3_0, f1_198, f1_284, f1_286, f1_241, f1_179, f1_152, f1_126, f1_286_12, f1_241_11, f1_179_10, f1_152_9, f1_126_8, f1_286_17, f1_241_16, f1_179_15, f1_152_14, f1_126_13, f1_0, own_u8, own_u7, own_u6, own_u5, g0, g1, g2, g3, gx, own_11, own_12, own_13, hl194, hl224, hl240, hg223, hg239, hg244, he224, he237, he240, he244, hm1, hm2, hm3, own_k00, own_k01, own_k02, own_k03, own_k04, own_k10, own_k11, own_k12, own_k13, own_k14, own_k20, own_k21, own_k22, own_k23, own_k24, own_k30, own_k31, own_k32, own_k33, own_k34, own_k40, own_k41, own_k42, own_k43, own_k44, own_e01, own_e02, own_e03, own_e04, own_e10, own_e12, own_e13, own_e14, own_e20, own_e21, own_e23, own_e24, own_e30, own_e31, own_e32, own_e34, own_e40, own_e41, own_e42, own_e43, ↓reduceIte]
theorem own_mid (v : List Int32) (p q a b c e x : Int32) (g0 : own_get v p &&& 255 = a) (g1 : own_get v (p + 1) &&& 255 = b) (g2 : own_get v (p + 2) &&& 255 = c) (g3 : own_get v (p + 3) &&& 255 = e) (gx : q - p = x) (hq1 : (p + 1 = q) = (x = 1)) (hq2 : (p + 2 = q) = (x = 2)) (hq3 : (p + 3 = q) = (x = 3)) (x1 : 1 ≤ x.toInt) (a0 : 128 ≤ a.toInt) (a1 : a.toInt ≤ 255) (b0 : 0 ≤ b.toInt) (b1 : b.toInt ≤ 255) (c0 : 0 ≤ c.toInt) (c1 : c.toInt ≤ 255) (e0 : 0 ≤ e.toInt) (e1 : e.toInt ≤ 255) : f2_0 v p q = f1_0 v p q := by
  have ha : (128 ≤ a.toInt ∧ a.toInt ≤ 191) ∨ (192 ≤ a.toInt ∧ a.toInt ≤ 193) ∨ (194 ≤ a.toInt ∧ a.toInt ≤ 223) ∨ (224 ≤ a.toInt ∧ a.toInt ≤ 224) ∨ (225 ≤ a.toInt ∧ a.toInt ≤ 236) ∨ (237 ≤ a.toInt ∧ a.toInt ≤ 237) ∨ (238 ≤ a.toInt ∧ a.toInt ≤ 239) ∨ (240 ≤ a.toInt ∧ a.toInt ≤ 240) ∨ (241 ≤ a.toInt ∧ a.toInt ≤ 243) ∨ (244 ≤ a.toInt ∧ a.toInt ≤ 244) ∨ (245 ≤ a.toInt ∧ a.toInt ≤ 247) ∨ (248 ≤ a.toInt ∧ a.toInt ≤ 255) := by omega
  rcases ha with ⟨y0, y1⟩ | ⟨y0, y1⟩ | ⟨y0, y1⟩ | ⟨y0, y1⟩ | ⟨y0, y1⟩ | ⟨y0, y1⟩ | ⟨y0, y1⟩ | ⟨y0, y1⟩ | ⟨y0, y1⟩ | ⟨y0, y1⟩ | ⟨y0, y1⟩ | ⟨y0, y1⟩
  · exact own_c1 v p q a b c e x g0 g1 g2 g3 gx hq1 hq2 hq3 x1 a0 a1 b0 b1 c0 c1 e0 e1 y0 y1
  · exact own_c2 v p q a b c e x g0 g1 g2 g3 gx hq1 hq2 hq3 x1 a0 a1 b0 b1 c0 c1 e0 e1 y0 y1
  · exact own_c3 v p q a b c e x g0 g1 g2 g3 gx hq1 hq2 hq3 x1 a0 a1 b0 b1 c0 c1 e0 e1 y0 y1
  · exact own_c4 v p q a b c e x g0 g1 g2 g3 gx hq1 hq2 hq3 x1 a0 a1 b0 b1 c0 c1 e0 e1 y0 y1
  · exact own_c5 v p q a b c e x g0 g1 g2 g3 gx hq1 hq2 hq3 x1 a0 a1 b0 b1 c0 c1 e0 e1 y0 y1
  · exact own_c6 v p q a b c e x g0 g1 g2 g3 gx hq1 hq2 hq3 x1 a0 a1 b0 b1 c0 c1 e0 e1 y0 y1
  · exact own_c7 v p q a b c e x g0 g1 g2 g3 gx hq1 hq2 hq3 x1 a0 a1 b0 b1 c0 c1 e0 e1 y0 y1
  · exact own_c8 v p q a b c e x g0 g1 g2 g3 gx hq1 hq2 hq3 x1 a0 a1 b0 b1 c0 c1 e0 e1 y0 y1
  · exact own_c9 v p q a b c e x g0 g1 g2 g3 gx hq1 hq2 hq3 x1 a0 a1 b0 b1 c0 c1 e0 e1 y0 y1
  · exact own_c10 v p q a b c e x g0 g1 g2 g3 gx hq1 hq2 hq3 x1 a0 a1 b0 b1 c0 c1 e0 e1 y0 y1
  · exact own_c11 v p q a b c e x g0 g1 g2 g3 gx hq1 hq2 hq3 x1 a0 a1 b0 b1 c0 c1 e0 e1 y0 y1
  · exact own_c12 v p q a b c e x g0 g1 g2 g3 gx hq1 hq2 hq3 x1 a0 a1 b0 b1 c0 c1 e0 e1 y0 y1
theorem own_sl {v : List Int32} (hv : v.length = 5) {p q w : Int32} (p0 : 0 ≤ p.toInt) (p1 : p.toInt ≤ 1) (w4 : w.toInt ≤ 4) (lo hi : Int32) : ∀ (n : Nat) (x8 : Int32), 1 ≤ x8.toInt → x8.toInt ≤ 4 → 5 ≤ x8.toInt + n → s2_151 n v p q w lo hi x8 := by
  intro n
  induction n with
  | zero => intro x8 h1 h2 h3; omega
  | succ n ih =>
    intro x8 h1 h2 h3
    unfold s2_151
    refine ⟨fun c => ⟨fun _ => trivial, fun _ => ?_⟩, fun _ => trivial⟩
    rw [own_lt] at c
    have e1 : (x8 + 1).toInt = x8.toInt + 1 := Jvm.Kit.i32_add (by rw [own_l1]; omega) (by rw [own_l1]; omega)
    have e2 : (p + x8).toInt = p.toInt + x8.toInt := Jvm.Kit.i32_add (by omega) (by omega)
    have r : s2_151 n v p q w lo hi (x8 + 1) := ih (x8 + 1) (by omega) (by omega) (by omega)
    refine ⟨?_, fun _ => ⟨fun _ => trivial, fun _ => ⟨fun _ => trivial, fun _ => r⟩⟩, fun _ => ⟨fun _ => trivial, fun _ => ⟨fun _ => trivial, fun _ => r⟩⟩⟩
    rw [hv]
    exact own_in_of (by omega) (by omega)
theorem own_s2 {v : List Int32} (hv : v.length = 5) {p q : Int32} (p0 : 0 ≤ p.toInt) (p1 : p.toInt ≤ 1) : s2_0 v p q := by
  have A : ∀ w lo hi, w.toInt ≤ 4 → s2_148 v p q w lo hi := fun w lo hi h => own_sl hv p0 p1 h lo hi 8 1 (by decide) (by decide) (by decide)
  have C : ∀ a lo hi, s2_92 v p q a lo hi := fun a lo hi => ⟨fun _ => trivial, fun _ => ⟨fun _ => trivial, fun _ => ⟨fun _ => ⟨fun _ => A _ _ _ (by decide), fun _ => A _ _ _ (by decide)⟩, fun _ => ⟨fun _ => A _ _ _ (by decide), fun _ => A _ _ _ (by decide)⟩⟩⟩⟩
  have D : ∀ a lo hi, s2_38 v p q a lo hi := fun a lo hi => ⟨fun _ => C _ _ _, fun _ => ⟨fun _ => C _ _ _, fun _ => ⟨fun _ => ⟨fun _ => A _ _ _ (by decide), fun _ => A _ _ _ (by decide)⟩, fun _ => ⟨fun _ => A _ _ _ (by decide), fun _ => A _ _ _ (by decide)⟩⟩⟩⟩
  exact ⟨by rw [hv]; exact own_in_of p0 (by omega), fun _ => D _ _ _, fun _ => ⟨fun _ => D _ _ _, fun _ => A _ _ _ (by decide)⟩⟩
theorem own_i2b_int (x : Int32) : (own_i2b x).toInt = x.toInt.bmod 256 := by
  show x.toInt8.toInt32.toInt = _
  rw [Int8.toInt_toInt32, Int32.toInt_toInt8]
theorem own_bit : ∀ n : Fin 256, 128 ≤ ((own_i2b (own_i2b ((own_i2b (Int32.ofNat n.val)) ||| 128))) &&& 255).toInt := by decide +kernel
theorem own_high (y : Int32) : 128 ≤ ((own_i2b (own_i2b ((own_i2b (own_i2b y)) ||| 128))) &&& 255).toInt := by
  have m := Jvm.Kit.i32_mask y 255 (k := 8) (by decide) (by decide)
  obtain ⟨n, h, e⟩ := own_of (a := y &&& 255) (by omega) (by omega)
  have k : own_i2b (own_i2b y) = own_i2b (Int32.ofNat n.val) := by
    rw [own_i2b2, ← h, own_eq, own_i2b_int, own_i2b_int, m, Int.bmod_def, Int.bmod_def]
    omega
  rw [k]
  exact own_bit n
theorem own_255 (y : Int32) : 0 ≤ (y &&& 255).toInt ∧ (y &&& 255).toInt ≤ 255 := by
  have m := Jvm.Kit.i32_mask y 255 (k := 8) (by decide) (by decide)
  omega
theorem own_inl {l : List Int32} {n : Nat} {j : Int32} (h : l.length = n) (k : own_in n j) : own_in l.length j := by rw [h]; exact k
theorem own_qq {p q x i : Int32} (gx : q - p = x) : (p + i = q) = (x = i) := by
  apply propext
  constructor
  · intro h; rw [← gx, ← h, Int32.add_comm, Int32.add_sub_cancel]
  · intro h; rw [← h, ← gx, Int32.add_comm, Int32.sub_add_cancel]
theorem own_top (v : List Int32) (hv : v.length = 5) (p q x : Int32) (p0 : 0 ≤ p.toInt) (p1 : p.toInt ≤ 1) (gx : q - p = x) (x1 : 1 ≤ x.toInt) (h : 128 ≤ (own_get v p &&& 255).toInt) : s1_0 v p q ∧ s2_0 v p q ∧ f2_0 v p q = f1_0 v p q := by
  have i : ∀ k : Int32, 0 ≤ k.toInt → k.toInt ≤ 3 → own_in v.length (p + k) := by
    intro k k0 k3
    have e2 : (p + k).toInt = p.toInt + k.toInt := Jvm.Kit.i32_add (by omega) (by omega)
    rw [hv]; exact own_in_of (by omega) (by omega)
  refine ⟨⟨by rw [hv]; exact own_in_of p0 (by omega), i 1 (by decide) (by decide), i 2 (by decide) (by decide), i 3 (by decide) (by decide), trivial⟩, own_s2 hv p0 p1, ?_⟩
  exact own_mid v p q _ _ _ _ x rfl rfl rfl rfl gx (own_qq gx) (own_qq gx) (own_qq gx) x1 h (own_255 _).2 (own_255 _).1 (own_255 _).2 (own_255 _).1 (own_255 _).2 (own_255 _).1 (own_255 _).2
theorem own_both (p0 p1 p2 p3 p4 p5 : Int32) : s0_0 p0 p1 p2 p3 p4 p5 ∧ f0_0 p0 p1 p2 p3 p4 p5 = 1 := by
  unfold s0_0 f0_0
  have m := Jvm.Kit.i32_mask p0 1 (k := 1) (by decide) (by decide)
  have l5 : (5 : Int32).toInt = 5 := rfl
  have u := own_ushr_toInt p0 1 (k := 1) (by decide) (by decide) (by decide)
  have k : p0 &&& 1 = 0 ∨ p0 &&& 1 = 1 := by rw [own_eq, own_eq, own_l0, own_l1]; omega
  have d : ∀ t : Int32, t = 0 ∨ t = 1 → 1 ≤ ((t + 1 + own_rem (own_ushr p0 1) (5 - t)) - t).toInt ∧ ¬ (5 - t = 0) := by
    intro t ht
    have ts : (5 - t).toInt = 5 - t.toInt ∧ 0 ≤ t.toInt ∧ t.toInt ≤ 1 := by rcases ht with rfl | rfl <;> decide
    have r : (own_rem (own_ushr p0 1) (5 - t)).toInt = (own_ushr p0 1).toInt % (5 - t).toInt := own_emod (by omega)
    have r0 := Int.emod_nonneg (own_ushr p0 1).toInt (b := (5 - t).toInt) (by omega)
    have r1 := Int.emod_lt_of_pos (own_ushr p0 1).toInt (b := (5 - t).toInt) (by omega)
    rw [← r] at r0 r1
    generalize own_rem (own_ushr p0 1) (5 - t) = w at *
    have a1 : (t + 1).toInt = t.toInt + 1 := Jvm.Kit.i32_add (by rw [own_l1]; omega) (by rw [own_l1]; omega)
    have a2 : (t + 1 + w).toInt = (t + 1).toInt + w.toInt := Jvm.Kit.i32_add (by omega) (by omega)
    have a3 : (t + 1 + w - t).toInt = (t + 1 + w).toInt - t.toInt := Jvm.Kit.i32_sub (by omega) (by omega)
    refine ⟨by omega, fun q => ?_⟩
    have q' := own_eq.mp q
    rw [own_l0] at q'
    omega
  generalize p0 &&& 1 = t at *
  obtain ⟨d1, d2⟩ := d t k
  generalize hq : t + 1 + own_rem (own_ushr p0 1) (5 - t) = q at *
  rcases k with rfl | rfl
  · obtain ⟨r1, r2, r3⟩ := own_top (own_set [(own_i2b (own_i2b p1)), (own_i2b (own_i2b p2)), (own_i2b (own_i2b p3)), (own_i2b (own_i2b p4)), (own_i2b (own_i2b p5))] 0 (own_i2b (own_i2b (own_get [(own_i2b (own_i2b p1)), (own_i2b (own_i2b p2)), (own_i2b (own_i2b p3)), (own_i2b (own_i2b p4)), (own_i2b (own_i2b p5))] 0 ||| 128)))) rfl 0 q _ (by decide) (by decide) rfl d1 (own_high p1)
    rw [if_pos r3]
    exact ⟨⟨own_inl (n := 5) rfl ⟨by decide, by decide⟩, own_inl (n := 5) rfl ⟨by decide, by decide⟩, d2, r1, r2, trivial⟩, rfl⟩
  · obtain ⟨r1, r2, r3⟩ := own_top (own_set [(own_i2b (own_i2b p1)), (own_i2b (own_i2b p2)), (own_i2b (own_i2b p3)), (own_i2b (own_i2b p4)), (own_i2b (own_i2b p5))] 1 (own_i2b (own_i2b (own_get [(own_i2b (own_i2b p1)), (own_i2b (own_i2b p2)), (own_i2b (own_i2b p3)), (own_i2b (own_i2b p4)), (own_i2b (own_i2b p5))] 1 ||| 128)))) rfl 1 q _ (by decide) (by decide) rfl d1 (own_high p2)
    rw [if_pos r3]
    exact ⟨⟨own_inl (n := 5) rfl ⟨by decide, by decide⟩, own_inl (n := 5) rfl ⟨by decide, by decide⟩, d2, r1, r2, trivial⟩, rfl⟩
theorem own_law (p0 p1 p2 p3 p4 p5 : Int32) : f0_0 p0 p1 p2 p3 p4 p5 = 1 := (own_both p0 p1 p2 p3 p4 p5).2
theorem own_safe (p0 p1 p2 p3 p4 p5 : Int32) : s0_0 p0 p1 p2 p3 p4 p5 := (own_both p0 p1 p2 p3 p4 p5).1

set_option maxRecDepth 65536 in
set_option maxHeartbeats 40000000 in
theorem comes_1 {Post : Tables → Env → Array Value → State → Outcome → State → Prop} (hpost : ∀ tb e args s v u, (limb_1_1.after args s (.returned v) u = true ∧ limb_1_2.after args s (.returned v) u = true) → FrameEnd s (.returned v) u (Jvm.fieldLocs frame_1_writes args s ++ Jvm.arrayLocs frame_1_arrays args s ++ Jvm.staticLocs frame_1_statics s) 16 128 → Post tb e args s (.returned v) u) :
    ArmFor flags0 classFile x code maxLocals ret World_1 tables_1 room_1 Calls_1 rest_1 Pre_1 Post := by
  intro l hfl _ _ p e ha hc hk s m args below hf hA hF happ hP
  obtain ⟨hcalls, hrest, hpre⟩ := hP
  obtain ⟨-, -, -, hnamed, -, -, -, hat⟩ := (Spec.applies_iff hf).mp happ
  obtain ⟨hg, hn⟩ := and_e (Cond.before_iff.mp (show (Jvm.Cond.and given_1 narrow_1).before args s = true from hpre))
  obtain ⟨g1a, g1b⟩ := and_e hg
  obtain ⟨g2a, g2b⟩ := and_e g1b
  obtain ⟨g3a, g3b⟩ := and_e g2b
  obtain ⟨g4a, g4b⟩ := and_e g3b
  obtain ⟨g5a, g5b⟩ := and_e g4b
  obtain ⟨g6a, g6b⟩ := and_e g5b
  obtain ⟨w0, w1, w2, w3, w4, w5, rfl⟩ : ∃ w0 w1 w2 w3 w4 w5 : Value, args = #[w0, w1, w2, w3, w4, w5] := by
    have hs : args.size = 6 := by simpa [Cond.value, given_1] using g1a
    obtain ⟨L⟩ := args
    match L, hs with
    | [w0, w1, w2, w3, w4, w5], _ => exact ⟨w0, w1, w2, w3, w4, w5, rfl⟩
  have hw := fun d (hd : d ∈ tables_1) => atoms_spec (ws := Jvm.Cond.code x code maxLocals ret :: tables_1) hat d (List.mem_cons_of_mem _ hd)
  obtain ⟨i0, ei0⟩ := is_v g2a
  obtain rfl : w0 = (.int i0) := Option.some.inj ei0
  obtain ⟨i1, ei1⟩ := is_v g3a
  obtain rfl : w1 = (.int i1) := Option.some.inj ei1
  obtain ⟨i2, ei2⟩ := is_v g4a
  obtain rfl : w2 = (.int i2) := Option.some.inj ei2
  obtain ⟨i3, ei3⟩ := is_v g5a
  obtain rfl : w3 = (.int i3) := Option.some.inj ei3
  obtain ⟨i4, ei4⟩ := is_v g6a
  obtain rfl : w4 = (.int i4) := Option.some.inj ei4
  obtain ⟨i5, ei5⟩ := is_v g6b
  obtain rfl : w5 = (.int i5) := Option.some.inj ei5
  obtain ⟨n, o, h1, h2, h3, v, L, rfl, ⟨rfl, rfl⟩, hq⟩ := rm0 l s _ hw tables_1 i0 i1 i2 i3 i4 i5 s.heap (own_safe i0 i1 i2 i3 i4 i5) p e ha hc hk s m _ below hf ((Spec.applies_iff_loose hf).mp happ).1 ⟨rfl, State.Warmed39.refl s, rfl⟩ trivial
  have hv1 := own_law i0 i1 i2 i3 i4 i5
  refine ⟨n, _, h1, h2, h3, hpost _ _ _ _ _ _ ⟨Cond.after_iff.mpr rfl, Cond.after_iff.mpr (eq_i res_at (Term.int_eval (1)) (by rw [hv1]) rfl)⟩ ⟨hq.1, hq.2.1, (hq.2.2.sift fun y hy => nomatch hy).mono (by decide) (by decide)⟩⟩
theorem main_1_1 : Claimed_1_1 := comes_1 fun _ _ _ _ _ _ h hF => ⟨h.1, hF⟩
theorem main_1_2 : Claimed_1_2 := comes_1 fun _ _ _ _ _ _ h hF => ⟨h.2, hF⟩
end Jvm.Pilot.@@N@@
namespace Jvm.Pilot.@@N@@
open Jvm Jvm.ClassFile Sem Op Lib Jvm.Free Jvm.Stand Jvm.Pilot.@@N@@.Jvm.D
/-! MADE BY PROGRAM (witnessworld.py) out of the Statement's table words and the real class files: 9 classes; the members and pool entries that the words name. The judged class is class 1, her method 1. -/
namespace start1
open Jvm.ClassFile
def u (s : String) : CpInfo := .utf8 (stringToUtf16 s)
/-- a pool by its gaps: so many unusable entries, then the entry; so many at the end -/
def gap : Nat → List CpInfo → List CpInfo
  | 0, r => r
  | n + 1, r => .unusable :: gap n r
def poolList (es : List (Nat × CpInfo)) (last : Nat) : List CpInfo := es.foldr (fun e r => gap e.1 (e.2 :: r)) (gap last [])
def pool (es : List (Nat × CpInfo)) (last : Nat) : Array CpInfo := ⟨poolList es last⟩
def fileOf (pool : Array CpInfo) (this : Nat) (attrs : Array Attribute := #[]) (ms : Array MethodInfo := #[]) (fl : Nat := 33) (sup : Nat := 0) (ifs : Array Nat := #[]) (fds : Array FieldInfo := #[]) : ClassFile where
  minorVersion := 0
  majorVersion := 65
  constantPool := pool
  accessFlags := fl
  thisClass := this
  superClass := sup
  interfaces := ifs
  fields := fds
  methods := ms
  attributes := attrs
def plain (name : String) (sup : Option ClassId) : Class where
  name := name
  kind := .ordinary
  loader := none
  accessFlags := 33
  super := sup
  interfaces := #[]
  cf := none
  fields := #[]
  methods := #[]
  instanceTypes := #[]
  staticTypes := #[]
  resolved := #[]
  callSites := []
  init := .initialized
  statics := none
  mirror := none

def pool0 : Array CpInfo := pool [(5, u "<init>"), (0, u "()V"), (1, .class_ 10), (1, u "java/lang/Object")] 113

def k0m0 : Method := { name := "<init>", desc := "()V", sig := { parameters := [], returnType := none }, accessFlags := 1, code := none }
/-- java/lang/Object -/
def k0 : Class := { plain "java/lang/Object" none with
  accessFlags := 33
  interfaces := #[]
  cf := some (fileOf pool0 8 #[] #[{ accessFlags := 1, nameIndex := 5, descriptorIndex := 6, attributes := #[] }] 33 0 #[] #[])
  fields := #[]
  methods := #[k0m0]
  instanceTypes := #[]
  staticTypes := #[]
  resolved := Array.replicate 124 none
  statics := none }

def pool1 : Array CpInfo := pool [(2, .class_ 4), (1, u "java/lang/Object"), (0, u "<init>"), (0, u "()V"), (0, .methodref 8 9), (0, .class_ 10), (0, .nameAndType 11 12), (0, u "com/example/fairtally/fairtally/ledger/Utf8SequenceLengthPinLaw"), (0, u "expected"), (0, u "([BII)I"), (0, .methodref 14 15), (0, .class_ 16), (0, .nameAndType 17 12), (0, u "com/example/fairtally/fairtally/ledger/Utf8"), (0, u "sequenceLength"), (0, .integer 65536), (0, .integer 262143), (0, .integer 1114111), (0, .methodref 8 22), (0, .nameAndType 23 24), (0, u "cont"), (0, u "(I)Z"), (0, .integer 55296), (0, .integer 57343), (2, u "law"), (0, u "(IIIIII)Z")] 5

def k1m0 : Method := { name := "<init>", desc := "()V", sig := { parameters := [], returnType := none }, accessFlags := 2, code := none }
def k1c1 : Code := { maxStack := 4, maxLocals := 11, code := code, exceptionTable := #[], attributes := #[] }
def k1m1 : Method := { name := "law", desc := "(IIIIII)Z", sig := { parameters := [.int, .int, .int, .int, .int, .int], returnType := some .boolean }, accessFlags := 9, code := some k1c1 }
def k1c2 : Code := { maxStack := 2, maxLocals := 1, code := method_3_code, exceptionTable := #[], attributes := #[] }
def k1m2 : Method := { name := "cont", desc := "(I)Z", sig := { parameters := [.int], returnType := some .boolean }, accessFlags := 10, code := some k1c2 }
def k1c3 : Code := { maxStack := 3, maxLocals := 14, code := method_4_code, exceptionTable := #[], attributes := #[] }
def k1m3 : Method := { name := "expected", desc := "([BII)I", sig := { parameters := [(.array .byte), .int, .int], returnType := some .int }, accessFlags := 10, code := some k1c3 }
/-- com/example/fairtally/fairtally/ledger/Utf8SequenceLengthPinLaw -/
def k1 : Class := { plain "com/example/fairtally/fairtally/ledger/Utf8SequenceLengthPinLaw" (some 0) with
  accessFlags := 49
  interfaces := #[]
  cf := some (fileOf pool1 8 #[] #[{ accessFlags := 2, nameIndex := 5, descriptorIndex := 6, attributes := #[] }, { accessFlags := 9, nameIndex := 29, descriptorIndex := 30, attributes := #[] }, { accessFlags := 10, nameIndex := 23, descriptorIndex := 24, attributes := #[] }, { accessFlags := 10, nameIndex := 11, descriptorIndex := 12, attributes := #[] }] 49 2 #[] #[])
  fields := #[]
  methods := #[k1m0, k1m1, k1m2, k1m3]
  instanceTypes := #[]
  staticTypes := #[]
  resolved := Array.replicate 36 none
  statics := none }

def pool2 : Array CpInfo := pool [(2, .class_ 4), (1, u "java/lang/Object"), (0, u "<init>"), (0, u "()V"), (0, .class_ 8), (0, u "com/example/fairtally/fairtally/ledger/Utf8"), (0, u "NOT_UTF8"), (0, u "I"), (2, u "CUT_SHORT"), (3, u "sequenceLength"), (0, u "([BII)I")] 5

def k2m0 : Method := { name := "<init>", desc := "()V", sig := { parameters := [], returnType := none }, accessFlags := 2, code := none }
def k2c1 : Code := { maxStack := 3, maxLocals := 10, code := prog_66_method_2_code, exceptionTable := #[], attributes := #[] }
def k2m1 : Method := { name := "sequenceLength", desc := "([BII)I", sig := { parameters := [(.array .byte), .int, .int], returnType := some .int }, accessFlags := 9, code := some k2c1 }
/-- com/example/fairtally/fairtally/ledger/Utf8 -/
def k2 : Class := { plain "com/example/fairtally/fairtally/ledger/Utf8" (some 0) with
  accessFlags := 33
  interfaces := #[]
  cf := some (fileOf pool2 7 #[] #[{ accessFlags := 2, nameIndex := 5, descriptorIndex := 6, attributes := #[] }, { accessFlags := 9, nameIndex := 17, descriptorIndex := 18, attributes := #[] }] 33 2 #[] #[{ accessFlags := 25, nameIndex := 9, descriptorIndex := 10, attributes := #[] }, { accessFlags := 25, nameIndex := 13, descriptorIndex := 10, attributes := #[] }])
  fields := #[{ name := "NOT_UTF8", type := .int, accessFlags := 25, slot := 0, constantValue := 0 }, { name := "CUT_SHORT", type := .int, accessFlags := 25, slot := 1, constantValue := 0 }]
  methods := #[k2m0, k2m1]
  instanceTypes := #[]
  staticTypes := #[.int, .int]
  resolved := Array.replicate 24 none
  statics := none }

def pool3 : Array CpInfo := pool [(1, u "java/lang/Cloneable"), (0, .class_ 1), (0, u "java/lang/Object"), (0, .class_ 3)] 3

/-- java/lang/Cloneable -/
def k3 : Class := { plain "java/lang/Cloneable" (some 0) with
  accessFlags := 1537
  interfaces := #[]
  cf := some (fileOf pool3 2 #[] #[] 1537 4 #[] #[])
  fields := #[]
  methods := #[]
  instanceTypes := #[]
  staticTypes := #[]
  resolved := Array.replicate 8 none
  statics := none }

def pool4 : Array CpInfo := pool [(1, u "java/io/Serializable"), (0, .class_ 1), (0, u "java/lang/Object"), (0, .class_ 3)] 3

/-- java/io/Serializable -/
def k4 : Class := { plain "java/io/Serializable" (some 0) with
  accessFlags := 1537
  interfaces := #[]
  cf := some (fileOf pool4 2 #[] #[] 1537 4 #[] #[])
  fields := #[]
  methods := #[]
  instanceTypes := #[]
  staticTypes := #[]
  resolved := Array.replicate 8 none
  statics := none }

/-- the primitive byte -/
def k5 : Class := { plain "byte" none with kind := .primitive 'B', accessFlags := 0x411 }
/-- [B -/
def k6 : Class := { plain "[B" (some 0) with kind := .array 5 .byte, interfaces := #[3, 4], accessFlags := 1041 }

/-- the primitive int -/
def k7 : Class := { plain "int" none with kind := .primitive 'I', accessFlags := 0x411 }
/-- [I -/
def k8 : Class := { plain "[I" (some 0) with kind := .array 7 .int, interfaces := #[3, 4], accessFlags := 1041 }

def heap : Heap := #[]
def classes : Array Class := #[k0, k1, k2, k3, k4, k5, k6, k7, k8]
def interned : List (Array UInt16 × Addr) := []
def slotsUsed : Nat := 0
def theMethod : MethodId := ⟨1, 1⟩
def args0 : Array Value := #[.int 5, .int 5, .int 5, .int 5, .int 5, .int 5]
def aboutOver (below : List Frame) : State where
  vm := { classes := classes, interned := interned.toArray }
  heap := heap
  slotsUsed := slotsUsed
  threads := #[{ frames := .invoking theMethod args0 :: below }]
def below0 : List Frame := [.native { method := ⟨0, 0⟩, args := #[] }]
def about1 : State := aboutOver below0
def p0 : Program := .bare "" "" ""
def e0 : Env := launch0.env 0 0 0
theorem w_frames : about1.frames = Frame.invoking theMethod args0 :: below0 := rfl
set_option maxRecDepth 65536 in
theorem w_args : argsFit about1.vm theMethod args0 = true := by decide +kernel
set_option maxRecDepth 65536 in
theorem w_heap : heapFits about1 = true := by decide +kernel
set_option maxRecDepth 65536 in
theorem w_runnable : about1.curStatus? = some .runnable := by decide +kernel
set_option maxRecDepth 65536 in
theorem w_alone : about1.alone = true := by decide +kernel
set_option maxRecDepth 65536 in
theorem w_named : about1.methodNamed? x = some theMethod := by decide +kernel
set_option maxRecDepth 65536 in
theorem w_hears : about1.hears theMethod below0 = true := by decide +kernel
set_option maxRecDepth 65536 in
theorem w_ripe : about1.ripe theMethod args0 below0 = true := by decide +kernel
theorem w_running : about1.status = .running := rfl
set_option maxRecDepth 65536 in
theorem w_room : about1.hasRoom e0.platform room_1 = true :=
  launch0.hasRoom_least _ room_1 (by decide +kernel) (by decide +kernel) (by decide +kernel) (by decide +kernel) (by decide +kernel) (by decide +kernel)
theorem allAtoms_all (ts : List Jvm.Cond) (a : Array Jvm.Value) (st : Jvm.State) : (allAtoms ts).before a st = ts.all (fun c => c.before a st) := by
  induction ts with
  | nil => rfl
  | cons c t ih =>
    show (Jvm.Cond.and c (allAtoms t)).before a st = _
    rw [Jvm.Cond.before_and, ih, List.all_cons]
def words1 : List Jvm.Cond := Jvm.Cond.code x code maxLocals ret :: tables_1
/-- a 'code' word, met by the world's own term for the bytes: nothing is compared byte by byte -/
theorem code_word {y : MethodName} {bytes : ByteArray} {mx : Nat} {rt : Option FieldType} {a : Array Value} {s : State} {m : MethodId} {meth : Method} {c : Code} (h1 : s.methodNamed? y = some m) (h2 : s.vm.method? m = some meth) (h3 : meth.code = some c) (h4 : c.code = bytes)
    (h5 : (c.maxLocals == mx && c.exceptionTable.isEmpty && decide (c.maxStack ≤ mostOperands) && decide (meth.sig.returnType = rt) && !meth.locks && decide (parseMethodDescriptor y.desc = some meth.sig)) = true) : (Jvm.Cond.code y bytes mx rt).before a s = true := by
  simp only [Bool.and_eq_true, beq_iff_eq, Bool.not_eq_true', decide_eq_true_eq] at h5
  obtain ⟨⟨⟨⟨⟨g1, g2⟩, g3⟩, g4⟩, g5⟩, g6⟩ := h5
  simp [Cond.before, Cond.holds, Cond.value, h1, h2, h3, h4, g1, g2, g3, g4, g5, g6]
def isCode : Jvm.Cond → Bool
  | .code _ _ _ _ => true
  | _ => false
theorem all_split {L : List Jvm.Cond} {P : Jvm.Cond → Bool} (h1 : L.all (fun c => isCode c || P c) = true) (h2 : ∀ c ∈ L.filter isCode, P c = true) : L.all P = true := by
  refine List.all_eq_true.mpr fun c hc => ?_
  have h := List.all_eq_true.mp h1 c hc
  rcases Bool.eq_false_or_eq_true (isCode c) with hi | hi
  · exact h2 c (List.mem_filter.mpr ⟨hc, hi⟩)
  · simpa [hi] using h
set_option maxRecDepth 65536 in
theorem w_c0 : (Jvm.Cond.code x code maxLocals ret).before args0 about1 = true := code_word (m := ⟨1, 1⟩) (meth := k1m1) (c := k1c1) (by decide +kernel) rfl rfl rfl (by decide +kernel)
set_option maxRecDepth 65536 in
theorem w_c1 : (Jvm.Cond.code ({ cls := "com/example/fairtally/fairtally/ledger/Utf8SequenceLengthPinLaw", name := "expected", desc := "([BII)I" } : Jvm.MethodName) method_4_code (14 : Nat) (Option.some Jvm.ClassFile.FieldType.int)).before args0 about1 = true := code_word (m := ⟨1, 3⟩) (meth := k1m3) (c := k1c3) (by decide +kernel) rfl rfl rfl (by decide +kernel)
set_option maxRecDepth 65536 in
theorem w_c2 : (Jvm.Cond.code ({ cls := "com/example/fairtally/fairtally/ledger/Utf8", name := "sequenceLength", desc := "([BII)I" } : Jvm.MethodName) prog_66_method_2_code (10 : Nat) (Option.some Jvm.ClassFile.FieldType.int)).before args0 about1 = true := code_word (m := ⟨2, 1⟩) (meth := k2m1) (c := k2c1) (by decide +kernel) rfl rfl rfl (by decide +kernel)
set_option maxRecDepth 65536 in
theorem w_c3 : (Jvm.Cond.code ({ cls := "com/example/fairtally/fairtally/ledger/Utf8SequenceLengthPinLaw", name := "cont", desc := "(I)Z" } : Jvm.MethodName) method_3_code (1 : Nat) (Option.some Jvm.ClassFile.FieldType.boolean)).before args0 about1 = true := code_word (m := ⟨1, 2⟩) (meth := k1m2) (c := k1c2) (by decide +kernel) rfl rfl rfl (by decide +kernel)
def codes1 : List Jvm.Cond := [Jvm.Cond.code x code maxLocals ret, Jvm.Cond.code ({ cls := "com/example/fairtally/fairtally/ledger/Utf8SequenceLengthPinLaw", name := "expected", desc := "([BII)I" } : Jvm.MethodName) method_4_code (14 : Nat) (Option.some Jvm.ClassFile.FieldType.int), Jvm.Cond.code ({ cls := "com/example/fairtally/fairtally/ledger/Utf8", name := "sequenceLength", desc := "([BII)I" } : Jvm.MethodName) prog_66_method_2_code (10 : Nat) (Option.some Jvm.ClassFile.FieldType.int), Jvm.Cond.code ({ cls := "com/example/fairtally/fairtally/ledger/Utf8SequenceLengthPinLaw", name := "cont", desc := "(I)Z" } : Jvm.MethodName) method_3_code (1 : Nat) (Option.some Jvm.ClassFile.FieldType.boolean)]
set_option maxRecDepth 65536 in
theorem codes_eq : words1.filter isCode = codes1 := rfl
theorem w_codes : ∀ c ∈ words1.filter isCode, c.before args0 about1 = true := by
  rw [codes_eq]
  intro c hc
  simp only [codes1, List.mem_cons, List.not_mem_nil, or_false] at hc
  rcases hc with rfl | rfl | rfl | rfl
  · exact w_c0
  · exact w_c1
  · exact w_c2
  · exact w_c3
set_option maxRecDepth 65536 in
theorem w_t1 : words1.all (fun c => isCode c || c.before args0 about1) = true := by decide +kernel
theorem w_tables : (allAtoms (Jvm.Cond.code x code maxLocals ret :: tables_1)).before args0 about1 = true := by
  rw [allAtoms_all]
  show words1.all (fun c => c.before args0 about1) = true
  refine all_split ?_ w_codes
  rw [w_t1]
set_option maxRecDepth 65536 in
theorem w_case : (Jvm.Cond.and given_1 narrow_1).before args0 about1 = true := by decide +kernel
theorem w_applies : (headSpec (Jvm.Cond.code x code maxLocals ret :: tables_1) room_1).applies x e0.platform about1 = true :=
  (Spec.applies_iff w_frames).mpr ⟨w_running, w_runnable, w_alone, w_named, w_hears, w_ripe, w_room, w_tables⟩
theorem atStart : AtStart classFile x code maxLocals ret World_1 tables_1 room_1 Calls_1 rest_1 Pre_1 launch0 p0 e0 about1 theMethod args0 below0 :=
  ⟨lists_1, trivial, launch0.admits_env _ _ _, launch0.least_env, fairChoices_fair.cas, fairChoices_fair.clock, w_frames, w_args, w_heap, w_applies, trivial, trivial, w_case⟩
end start1
theorem witness_1 : WitnessClaimed_1 := ⟨start1.p0, start1.e0, start1.about1, start1.theMethod, start1.args0, start1.below0, start1.atStart⟩
end Jvm.Pilot.@@N@@
