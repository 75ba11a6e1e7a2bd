import JvmDerived
import JvmDerived.Pilot.@@N@@Statement
import JvmDerived.Pilot.@@N@@Code
set_option linter.unusedVariables false
set_option linter.unusedSimpArgs false
@@BLOCK:NumsL.lean.txt@@
namespace Jvm.RoadKit
open Sem ClassFile Op Lib Jvm.Stand Jvm.Free Jvm.LawKit
section New
variable {p : Program} {l : Launch} {e : Env} {R : Room} {s : State} {m : MethodId} {args : Array Value} {below : List Frame} {meth : Method} {c : Code} {T : State} {locs : List Loc} {cells slots : Nat}
theorem retI (X : Stand p l e R s m args below meth c T locs cells slots) (hx : p.tables.exec = Jvm.exec) {pc : Nat} {Ls : Array Slot} {z : Int32} {rest : List Value} (hret : meth.sig.returnType = some .int) (hd : decode c.code pc = .ok (.ireturn, 1)) {fs : List Frame}
    (hl : ∀ (f : JFrame) (acts : List Action), f.method = m → f.locked = none → f.entered = [] → (doReturn e (T.setTop f) acts (some (.int z))).1 = T.setFrames fs) : Steps p.tables e below (T.setTop (mkF m pc Ls (.int z :: rest))) (T.setFrames fs) := by
  have hm' : T.vm.method? m = some meth := X.method'
  have hn : narrow .int (.int z) = .int z := rfl
  show Steps p.tables e below (T.setTop { method := m, pc := pc, locals := Ls, stack := _ :: rest, locked := none }) _
  jvm_step X.here [X.here.top, hx, hd, hm', hret, hn]
  first | (intro acts; rw [hl _ acts rfl rfl rfl]) | rw [hl _ _ rfl rfl rfl]
  exact Steps.refl _
end New
end Jvm.RoadKit
namespace Jvm.Pilot.@@N@@
open Jvm Jvm.ClassFile Sem Op Lib Jvm.Free Jvm.Stand Jvm.LawKit Jvm.RoadKit Bundle Jvm.Pilot.@@N@@.Jvm.D
/-! OWN KIT: a run that comes to an end, one law an instruction, arrays as lists (written once, pasted by wip/gen/lawgen.py) -/
section OwnKit
variable {p : Program} {l : Launch} {e : Env} {R : Room} {s : State} {m : MethodId} {args : Array Value} {below : List Frame} {meth : Method} {c : Code} {T T' : State} {locs : List Loc} {cells slots : Nat} {Z : State} {a0 : Array Value} {h h' : Heap}
variable {Q : Outcome → State → Prop} {K : Option Value → Heap → List Loc → Prop} {cc ss : Nat}
variable {pc pc' pc1 pc2 : Nat} {Ls l' : Array Slot} {rest : List Value} {x y : Int32} {u w : Int64}
/-- from T, with g on top, the run comes to an end of which Q holds -/
def own_Go (p : Program) (e : Env) (below : List Frame) (Q : Outcome → State → Prop) (T : State) (g : JFrame) : Prop :=
  ∃ s₂ o, Steps p.tables e below (T.setTop g) s₂ ∧ s₂.status = .running ∧ Ended s₂ below o ∧ Q o s₂
/-- what a body's end says: it returned, K holds of the value, the heap and the old places written -/
def own_Q (s : State) (K : Option Value → Heap → List Loc → Prop) (cc ss : Nat) : Outcome → State → Prop := fun o t => ∃ v L, o = .returned v ∧ K v t.heap L ∧ FrameEnd s o t L cc ss
/-- what stands fast in one body -/
def own_Cx (p : Program) (s : State) (m : MethodId) (meth : Method) (c : Code) (Z : State) (a0 : Array Value) (bytes : ByteArray) (ml : Nat) (own : String) (rt : Option FieldType) (nm : String) : Prop :=
  p.tables.exec = Jvm.exec ∧ Z.Warmed39 s.vm ∧ (∀ d ∈ tables_1, d.before a0 Z = true) ∧ c.code = bytes ∧ c.maxLocals = ml ∧ s.vm.findClass own = some m.cls ∧ meth.sig.returnType = rt ∧ meth.locks = false ∧ meth.name = nm
theorem own_go {g g' : JFrame} (st : ∀ t, Steps p.tables e below (T'.setTop g') t → Steps p.tables e below (T.setTop g) t) (k : own_Go p e below Q T' g') : own_Go p e below Q T g := by
  obtain ⟨s₂, o, h1, h2⟩ := k
  exact ⟨s₂, o, st _ h1, h2⟩
theorem o_iloadN (X : Stand p l e R s m args below meth c T locs cells slots) (hx : p.tables.exec = Jvm.exec) {k : Fin 4} {v : Int32} (hd : decode c.code pc = .ok (.iload_n k, 1)) (hl : Ls[k.val]? = some (.val (.int v))) (hp : pc + 1 = pc') (q : own_Go p e below Q T (mkF m pc' Ls (.int v :: rest))) : own_Go p e below Q T (mkF m pc Ls rest) := by
  subst hp; exact own_go (fun t k' => XS.iloadN X.here hx rfl hd hl k') q
theorem o_iload (X : Stand p l e R s m args below meth c T locs cells slots) (hx : p.tables.exec = Jvm.exec) {k : Nat} {v : Int32} (hd : decode c.code pc = .ok (.iload k, 2)) (hl : Ls[k]? = some (.val (.int v))) (hp : pc + 2 = pc') (q : own_Go p e below Q T (mkF m pc' Ls (.int v :: rest))) : own_Go p e below Q T (mkF m pc Ls rest) := by
  subst hp; exact own_go (fun t k' => XS.iload X.here hx rfl hd hl k') q
theorem o_lloadN (X : Stand p l e R s m args below meth c T locs cells slots) (hx : p.tables.exec = Jvm.exec) {k : Fin 4} {v : Int64} (hd : decode c.code pc = .ok (.lload_n k, 1)) (hl : Ls[k.val]? = some (.val (.long v))) (hp : pc + 1 = pc') (q : own_Go p e below Q T (mkF m pc' Ls (.long v :: rest))) : own_Go p e below Q T (mkF m pc Ls rest) := by
  subst hp; exact own_go (fun t k' => XS.lloadN X.here hx rfl hd hl k') q
theorem o_lload (X : Stand p l e R s m args below meth c T locs cells slots) (hx : p.tables.exec = Jvm.exec) {k : Nat} {v : Int64} (hd : decode c.code pc = .ok (.lload k, 2)) (hl : Ls[k]? = some (.val (.long v))) (hp : pc + 2 = pc') (q : own_Go p e below Q T (mkF m pc' Ls (.long v :: rest))) : own_Go p e below Q T (mkF m pc Ls rest) := by
  subst hp; exact own_go (fun t k' => XS.lload X.here hx rfl hd hl k') q
theorem o_aloadN (X : Stand p l e R s m args below meth c T locs cells slots) (hx : p.tables.exec = Jvm.exec) {k : Fin 4} {v : Value} (hd : decode c.code pc = .ok (.aload_n k, 1)) (hl : Ls[k.val]? = some (.val v)) (hv : v.isRef = true) (hp : pc + 1 = pc') (q : own_Go p e below Q T (mkF m pc' Ls (v :: rest))) : own_Go p e below Q T (mkF m pc Ls rest) := by
  subst hp; exact own_go (fun t k' => XS.aloadN X.here hx rfl hd hl hv k') q
theorem o_aload (X : Stand p l e R s m args below meth c T locs cells slots) (hx : p.tables.exec = Jvm.exec) {k : Nat} {v : Value} (hd : decode c.code pc = .ok (.aload k, 2)) (hl : Ls[k]? = some (.val v)) (hv : v.isRef = true) (hp : pc + 2 = pc') (q : own_Go p e below Q T (mkF m pc' Ls (v :: rest))) : own_Go p e below Q T (mkF m pc Ls rest) := by
  subst hp; exact own_go (fun t k' => XS.aload X.here hx rfl hd hl hv k') q
theorem o_istoreN (X : Stand p l e R s m args below meth c T locs cells slots) (hx : p.tables.exec = Jvm.exec) {k : Fin 4} (hd : decode c.code pc = .ok (.istore_n k, 1)) (hl : storeLocals Ls k.val (.int x) = some l') (hp : pc + 1 = pc') (q : own_Go p e below Q T (mkF m pc' l' rest)) : own_Go p e below Q T (mkF m pc Ls (.int x :: rest)) := by
  subst hp; exact own_go (fun t k' => XS.istoreN X.here hx rfl hd rfl hl k') q
theorem o_istore (X : Stand p l e R s m args below meth c T locs cells slots) (hx : p.tables.exec = Jvm.exec) {k : Nat} (hd : decode c.code pc = .ok (.istore k, 2)) (hl : storeLocals Ls k (.int x) = some l') (hp : pc + 2 = pc') (q : own_Go p e below Q T (mkF m pc' l' rest)) : own_Go p e below Q T (mkF m pc Ls (.int x :: rest)) := by
  subst hp; exact own_go (fun t k' => XS.istore X.here hx rfl hd rfl hl k') q
theorem o_lstoreN (X : Stand p l e R s m args below meth c T locs cells slots) (hx : p.tables.exec = Jvm.exec) {k : Fin 4} (hd : decode c.code pc = .ok (.lstore_n k, 1)) (hl : storeLocals Ls k.val (.long u) = some l') (hp : pc + 1 = pc') (q : own_Go p e below Q T (mkF m pc' l' rest)) : own_Go p e below Q T (mkF m pc Ls (.long u :: rest)) := by
  subst hp; exact own_go (fun t k' => XS.lstoreN X.here hx rfl hd rfl hl k') q
theorem o_lstore (X : Stand p l e R s m args below meth c T locs cells slots) (hx : p.tables.exec = Jvm.exec) {k : Nat} (hd : decode c.code pc = .ok (.lstore k, 2)) (hl : storeLocals Ls k (.long u) = some l') (hp : pc + 2 = pc') (q : own_Go p e below Q T (mkF m pc' l' rest)) : own_Go p e below Q T (mkF m pc Ls (.long u :: rest)) := by
  subst hp; exact own_go (fun t k' => XS.lstore X.here hx rfl hd rfl hl k') q
theorem o_astoreN (X : Stand p l e R s m args below meth c T locs cells slots) (hx : p.tables.exec = Jvm.exec) {k : Fin 4} {v : Value} (hd : decode c.code pc = .ok (.astore_n k, 1)) (hv : v.isRef = true) (hl : storeLocals Ls k.val v = some l') (hp : pc + 1 = pc') (q : own_Go p e below Q T (mkF m pc' l' rest)) : own_Go p e below Q T (mkF m pc Ls (v :: rest)) := by
  subst hp; exact own_go (fun t k' => XS.astoreN X.here hx rfl hd rfl hv hl k') q
theorem o_astore (X : Stand p l e R s m args below meth c T locs cells slots) (hx : p.tables.exec = Jvm.exec) {k : Nat} {v : Value} (hd : decode c.code pc = .ok (.astore k, 2)) (hv : v.isRef = true) (hl : storeLocals Ls k v = some l') (hp : pc + 2 = pc') (q : own_Go p e below Q T (mkF m pc' l' rest)) : own_Go p e below Q T (mkF m pc Ls (v :: rest)) := by
  subst hp; exact own_go (fun t k' => XS.astore X.here hx rfl hd rfl hv hl k') q
theorem o_iconst (X : Stand p l e R s m args below meth c T locs cells slots) (hx : p.tables.exec = Jvm.exec) {i : Int} (hd : decode c.code pc = .ok (.iconst i, 1)) (hv : Int32.ofInt i = x) (hp : pc + 1 = pc') (q : own_Go p e below Q T (mkF m pc' Ls (.int x :: rest))) : own_Go p e below Q T (mkF m pc Ls rest) := by
  subst hp hv; exact own_go (fun t k' => XS.iconst X.here hx rfl hd k') q
theorem o_bipush (X : Stand p l e R s m args below meth c T locs cells slots) (hx : p.tables.exec = Jvm.exec) {i : Int} (hd : decode c.code pc = .ok (.bipush i, 2)) (hv : (Int8.ofInt i).toInt32 = x) (hp : pc + 2 = pc') (q : own_Go p e below Q T (mkF m pc' Ls (.int x :: rest))) : own_Go p e below Q T (mkF m pc Ls rest) := by
  subst hp hv; exact own_go (fun t k' => XS.bipush X.here hx rfl hd k') q
theorem o_sipush (X : Stand p l e R s m args below meth c T locs cells slots) (hx : p.tables.exec = Jvm.exec) {i : Int} (hd : decode c.code pc = .ok (.sipush i, 3)) (hv : (Int16.ofInt i).toInt32 = x) (hp : pc + 3 = pc') (q : own_Go p e below Q T (mkF m pc' Ls (.int x :: rest))) : own_Go p e below Q T (mkF m pc Ls rest) := by
  subst hp hv; exact own_go (fun t k' => XS.sipush X.here hx rfl hd k') q
theorem o_lconst (X : Stand p l e R s m args below meth c T locs cells slots) (hx : p.tables.exec = Jvm.exec) {k : Fin 2} (hd : decode c.code pc = .ok (.lconst k, 1)) (hv : Int64.ofNat k = u) (hp : pc + 1 = pc') (q : own_Go p e below Q T (mkF m pc' Ls (.long u :: rest))) : own_Go p e below Q T (mkF m pc Ls rest) := by
  subst hp hv; exact own_go (fun t k' => XS.lconst X.here hx rfl hd k') q
theorem o_ldcI (X : Stand p l e R s m args below meth c T locs cells slots) (hx : p.tables.exec = Jvm.exec) (hZ : Z.Warmed39 s.vm) {own : String} {index : Nat} (hown : s.vm.findClass own = some m.cls) (w1 : (Cond.constant own index x).before a0 Z = true) (hd : decode c.code pc = .ok (.ldc index, 2)) (hp : pc + 2 = pc') (q : own_Go p e below Q T (mkF m pc' Ls (.int x :: rest))) : own_Go p e below Q T (mkF m pc Ls rest) := by
  subst hp; exact own_go (fun t k' => X.ldcInt hx hown (mvT hZ w1) (g := mkF m pc Ls rest) rfl hd t k') q
theorem o_ldcL (X : Stand p l e R s m args below meth c T locs cells slots) (hx : p.tables.exec = Jvm.exec) (hZ : Z.Warmed39 s.vm) {own : String} {index : Nat} (hown : s.vm.findClass own = some m.cls) (w1 : (Cond.constantLong own index u).before a0 Z = true) (hd : decode c.code pc = .ok (.ldc2_w index, 3)) (hp : pc + 3 = pc') (q : own_Go p e below Q T (mkF m pc' Ls (.long u :: rest))) : own_Go p e below Q T (mkF m pc Ls rest) := by
  subst hp; exact own_go (fun t k' => X.ldc2Long hx hown (mvT hZ w1) (g := mkF m pc Ls rest) rfl hd t k') q
theorem o_iadd (X : Stand p l e R s m args below meth c T locs cells slots) (hx : p.tables.exec = Jvm.exec) (hd : decode c.code pc = .ok (.iadd, 1)) (hp : pc + 1 = pc') {z : Int32} (hz : x + y = z) (q : own_Go p e below Q T (mkF m pc' Ls (.int z :: rest))) : own_Go p e below Q T (mkF m pc Ls (.int y :: .int x :: rest)) := by
  subst hp hz; exact own_go (fun t k' => XS.iadd X.here hx rfl hd rfl k') q
theorem o_isub (X : Stand p l e R s m args below meth c T locs cells slots) (hx : p.tables.exec = Jvm.exec) (hd : decode c.code pc = .ok (.isub, 1)) (hp : pc + 1 = pc') {z : Int32} (hz : x - y = z) (q : own_Go p e below Q T (mkF m pc' Ls (.int z :: rest))) : own_Go p e below Q T (mkF m pc Ls (.int y :: .int x :: rest)) := by
  subst hp hz; exact own_go (fun t k' => XS.isub X.here hx rfl hd rfl k') q
theorem o_imul (X : Stand p l e R s m args below meth c T locs cells slots) (hx : p.tables.exec = Jvm.exec) (hd : decode c.code pc = .ok (.imul, 1)) (hp : pc + 1 = pc') {z : Int32} (hz : x * y = z) (q : own_Go p e below Q T (mkF m pc' Ls (.int z :: rest))) : own_Go p e below Q T (mkF m pc Ls (.int y :: .int x :: rest)) := by
  subst hp hz; exact own_go (fun t k' => XS.imul X.here hx rfl hd rfl k') q
theorem o_iand (X : Stand p l e R s m args below meth c T locs cells slots) (hx : p.tables.exec = Jvm.exec) (hd : decode c.code pc = .ok (.iand, 1)) (hp : pc + 1 = pc') {z : Int32} (hz : x &&& y = z) (q : own_Go p e below Q T (mkF m pc' Ls (.int z :: rest))) : own_Go p e below Q T (mkF m pc Ls (.int y :: .int x :: rest)) := by
  subst hp hz; exact own_go (fun t k' => XS.iand X.here hx rfl hd rfl k') q
theorem o_ior (X : Stand p l e R s m args below meth c T locs cells slots) (hx : p.tables.exec = Jvm.exec) (hd : decode c.code pc = .ok (.ior, 1)) (hp : pc + 1 = pc') {z : Int32} (hz : x ||| y = z) (q : own_Go p e below Q T (mkF m pc' Ls (.int z :: rest))) : own_Go p e below Q T (mkF m pc Ls (.int y :: .int x :: rest)) := by
  subst hp hz; exact own_go (fun t k' => XS.ior X.here hx rfl hd rfl k') q
theorem o_ixor (X : Stand p l e R s m args below meth c T locs cells slots) (hx : p.tables.exec = Jvm.exec) (hd : decode c.code pc = .ok (.ixor, 1)) (hp : pc + 1 = pc') {z : Int32} (hz : x ^^^ y = z) (q : own_Go p e below Q T (mkF m pc' Ls (.int z :: rest))) : own_Go p e below Q T (mkF m pc Ls (.int y :: .int x :: rest)) := by
  subst hp hz; exact own_go (fun t k' => XS.ixor X.here hx rfl hd rfl k') q
/-- Java's shifts, remainders: under names of our own -/
def own_shl (x y : Int32) : Int32 := x <<< (y &&& 31)
def own_shr (x y : Int32) : Int32 := x >>> (y &&& 31)
def own_ushr (x y : Int32) : Int32 := (x.toUInt32 >>> (y &&& 31).toUInt32).toInt32
def own_rem (x y : Int32) : Int32 := x - (x / y) * y
def own_lshl (u : Int64) (y : Int32) : Int64 := u <<< (y &&& 0x3f).toInt64
def own_lushr (u : Int64) (y : Int32) : Int64 := (u.toUInt64 >>> (y &&& 0x3f).toInt64.toUInt64).toInt64
def own_lrem (u w : Int64) : Int64 := u - (u / w) * w
theorem o_ishl (X : Stand p l e R s m args below meth c T locs cells slots) (hx : p.tables.exec = Jvm.exec) (hd : decode c.code pc = .ok (.ishl, 1)) (hp : pc + 1 = pc') {z : Int32} (hz : own_shl x y = z) (q : own_Go p e below Q T (mkF m pc' Ls (.int z :: rest))) : own_Go p e below Q T (mkF m pc Ls (.int y :: .int x :: rest)) := by
  subst hp hz; exact own_go (fun t k' => XS.ishl X.here hx rfl hd rfl k') q
theorem o_ishr (X : Stand p l e R s m args below meth c T locs cells slots) (hx : p.tables.exec = Jvm.exec) (hd : decode c.code pc = .ok (.ishr, 1)) (hp : pc + 1 = pc') {z : Int32} (hz : own_shr x y = z) (q : own_Go p e below Q T (mkF m pc' Ls (.int z :: rest))) : own_Go p e below Q T (mkF m pc Ls (.int y :: .int x :: rest)) := by
  subst hp hz; exact own_go (fun t k' => XS.ishr X.here hx rfl hd rfl k') q
theorem o_iushr (X : Stand p l e R s m args below meth c T locs cells slots) (hx : p.tables.exec = Jvm.exec) (hd : decode c.code pc = .ok (.iushr, 1)) (hp : pc + 1 = pc') {z : Int32} (hz : own_ushr x y = z) (q : own_Go p e below Q T (mkF m pc' Ls (.int z :: rest))) : own_Go p e below Q T (mkF m pc Ls (.int y :: .int x :: rest)) := by
  subst hp hz; exact own_go (fun t k' => XS.iushr X.here hx rfl hd rfl k') q
theorem o_irem (X : Stand p l e R s m args below meth c T locs cells slots) (hx : p.tables.exec = Jvm.exec) (hd : decode c.code pc = .ok (.irem, 1)) (hp : pc + 1 = pc') (hy : y ≠ 0) {z : Int32} (hz : own_rem x y = z) (q : own_Go p e below Q T (mkF m pc' Ls (.int z :: rest))) : own_Go p e below Q T (mkF m pc Ls (.int y :: .int x :: rest)) := by
  subst hp hz; exact own_go (fun t k' => XS.irem X.here hx rfl hd rfl hy k') q
theorem o_idiv (X : Stand p l e R s m args below meth c T locs cells slots) (hx : p.tables.exec = Jvm.exec) (hd : decode c.code pc = .ok (.idiv, 1)) (hp : pc + 1 = pc') (hy : y ≠ 0) {z : Int32} (hz : x / y = z) (q : own_Go p e below Q T (mkF m pc' Ls (.int z :: rest))) : own_Go p e below Q T (mkF m pc Ls (.int y :: .int x :: rest)) := by
  subst hp hz; exact own_go (fun t k' => XS.idiv X.here hx rfl hd rfl hy k') q
theorem o_ineg (X : Stand p l e R s m args below meth c T locs cells slots) (hx : p.tables.exec = Jvm.exec) (hd : decode c.code pc = .ok (.ineg, 1)) (hp : pc + 1 = pc') {z : Int32} (hz : -x = z) (q : own_Go p e below Q T (mkF m pc' Ls (.int z :: rest))) : own_Go p e below Q T (mkF m pc Ls (.int x :: rest)) := by
  subst hp hz; exact own_go (fun t k' => XS.ineg X.here hx rfl hd rfl k') q
theorem o_ladd (X : Stand p l e R s m args below meth c T locs cells slots) (hx : p.tables.exec = Jvm.exec) (hd : decode c.code pc = .ok (.ladd, 1)) (hp : pc + 1 = pc') {z : Int64} (hz : u + w = z) (q : own_Go p e below Q T (mkF m pc' Ls (.long z :: rest))) : own_Go p e below Q T (mkF m pc Ls (.long w :: .long u :: rest)) := by
  subst hp hz; exact own_go (fun t k' => XS.ladd X.here hx rfl hd rfl k') q
theorem o_lsub (X : Stand p l e R s m args below meth c T locs cells slots) (hx : p.tables.exec = Jvm.exec) (hd : decode c.code pc = .ok (.lsub, 1)) (hp : pc + 1 = pc') {z : Int64} (hz : u - w = z) (q : own_Go p e below Q T (mkF m pc' Ls (.long z :: rest))) : own_Go p e below Q T (mkF m pc Ls (.long w :: .long u :: rest)) := by
  subst hp hz; exact own_go (fun t k' => XS.lsub X.here hx rfl hd rfl k') q
theorem o_lmul (X : Stand p l e R s m args below meth c T locs cells slots) (hx : p.tables.exec = Jvm.exec) (hd : decode c.code pc = .ok (.lmul, 1)) (hp : pc + 1 = pc') {z : Int64} (hz : u * w = z) (q : own_Go p e below Q T (mkF m pc' Ls (.long z :: rest))) : own_Go p e below Q T (mkF m pc Ls (.long w :: .long u :: rest)) := by
  subst hp hz; exact own_go (fun t k' => XS.lmul X.here hx rfl hd rfl k') q
theorem o_land (X : Stand p l e R s m args below meth c T locs cells slots) (hx : p.tables.exec = Jvm.exec) (hd : decode c.code pc = .ok (.land, 1)) (hp : pc + 1 = pc') {z : Int64} (hz : u &&& w = z) (q : own_Go p e below Q T (mkF m pc' Ls (.long z :: rest))) : own_Go p e below Q T (mkF m pc Ls (.long w :: .long u :: rest)) := by
  subst hp hz; exact own_go (fun t k' => XS.land X.here hx rfl hd rfl k') q
theorem o_lor (X : Stand p l e R s m args below meth c T locs cells slots) (hx : p.tables.exec = Jvm.exec) (hd : decode c.code pc = .ok (.lor, 1)) (hp : pc + 1 = pc') {z : Int64} (hz : u ||| w = z) (q : own_Go p e below Q T (mkF m pc' Ls (.long z :: rest))) : own_Go p e below Q T (mkF m pc Ls (.long w :: .long u :: rest)) := by
  subst hp hz; exact own_go (fun t k' => XS.lor X.here hx rfl hd rfl k') q
theorem o_lxor (X : Stand p l e R s m args below meth c T locs cells slots) (hx : p.tables.exec = Jvm.exec) (hd : decode c.code pc = .ok (.lxor, 1)) (hp : pc + 1 = pc') {z : Int64} (hz : u ^^^ w = z) (q : own_Go p e below Q T (mkF m pc' Ls (.long z :: rest))) : own_Go p e below Q T (mkF m pc Ls (.long w :: .long u :: rest)) := by
  subst hp hz; exact own_go (fun t k' => XS.lxor X.here hx rfl hd rfl k') q
theorem o_lshl (X : Stand p l e R s m args below meth c T locs cells slots) (hx : p.tables.exec = Jvm.exec) (hd : decode c.code pc = .ok (.lshl, 1)) (hp : pc + 1 = pc') {z : Int64} (hz : own_lshl u y = z) (q : own_Go p e below Q T (mkF m pc' Ls (.long z :: rest))) : own_Go p e below Q T (mkF m pc Ls (.int y :: .long u :: rest)) := by
  subst hp hz; exact own_go (fun t k' => XS.lshl X.here hx rfl hd rfl k') q
theorem o_lushr (X : Stand p l e R s m args below meth c T locs cells slots) (hx : p.tables.exec = Jvm.exec) (hd : decode c.code pc = .ok (.lushr, 1)) (hp : pc + 1 = pc') {z : Int64} (hz : own_lushr u y = z) (q : own_Go p e below Q T (mkF m pc' Ls (.long z :: rest))) : own_Go p e below Q T (mkF m pc Ls (.int y :: .long u :: rest)) := by
  subst hp hz; exact own_go (fun t k' => XS.lushr X.here hx rfl hd rfl k') q
theorem o_ldiv (X : Stand p l e R s m args below meth c T locs cells slots) (hx : p.tables.exec = Jvm.exec) (hd : decode c.code pc = .ok (.ldiv, 1)) (hp : pc + 1 = pc') (hy : w ≠ 0) {z : Int64} (hz : u / w = z) (q : own_Go p e below Q T (mkF m pc' Ls (.long z :: rest))) : own_Go p e below Q T (mkF m pc Ls (.long w :: .long u :: rest)) := by
  subst hp hz; exact own_go (fun t k' => XS.ldiv X.here hx rfl hd rfl hy k') q
theorem o_lrem (X : Stand p l e R s m args below meth c T locs cells slots) (hx : p.tables.exec = Jvm.exec) (hd : decode c.code pc = .ok (.lrem, 1)) (hp : pc + 1 = pc') (hy : w ≠ 0) {z : Int64} (hz : own_lrem u w = z) (q : own_Go p e below Q T (mkF m pc' Ls (.long z :: rest))) : own_Go p e below Q T (mkF m pc Ls (.long w :: .long u :: rest)) := by
  subst hp hz; exact own_go (fun t k' => XS.lrem X.here hx rfl hd rfl hy k') q
theorem o_i2l (X : Stand p l e R s m args below meth c T locs cells slots) (hx : p.tables.exec = Jvm.exec) (hd : decode c.code pc = .ok (.i2l, 1)) (hp : pc + 1 = pc') {z : Int64} (hz : x.toInt64 = z) (q : own_Go p e below Q T (mkF m pc' Ls (.long z :: rest))) : own_Go p e below Q T (mkF m pc Ls (.int x :: rest)) := by
  subst hp hz; exact own_go (fun t k' => XS.i2l X.here hx rfl hd rfl k') q
theorem o_l2i (X : Stand p l e R s m args below meth c T locs cells slots) (hx : p.tables.exec = Jvm.exec) (hd : decode c.code pc = .ok (.l2i, 1)) (hp : pc + 1 = pc') {z : Int32} (hz : u.toInt32 = z) (q : own_Go p e below Q T (mkF m pc' Ls (.int z :: rest))) : own_Go p e below Q T (mkF m pc Ls (.long u :: rest)) := by
  subst hp hz; exact own_go (fun t k' => XS.l2i X.here hx rfl hd rfl k') q
def own_i2b (x : Int32) : Int32 := x.toInt8.toInt32
def own_i2c (x : Int32) : Int32 := x.toUInt32.toUInt16.toUInt32.toInt32
theorem o_i2b (X : Stand p l e R s m args below meth c T locs cells slots) (hx : p.tables.exec = Jvm.exec) (hd : decode c.code pc = .ok (.i2b, 1)) (hp : pc + 1 = pc') {z : Int32} (hz : own_i2b x = z) (q : own_Go p e below Q T (mkF m pc' Ls (.int z :: rest))) : own_Go p e below Q T (mkF m pc Ls (.int x :: rest)) := by
  subst hp hz; exact own_go (fun t k' => XS.i2b X.here hx rfl hd rfl k') q
theorem o_i2c (X : Stand p l e R s m args below meth c T locs cells slots) (hx : p.tables.exec = Jvm.exec) (hd : decode c.code pc = .ok (.i2c, 1)) (hp : pc + 1 = pc') {z : Int32} (hz : own_i2c x = z) (q : own_Go p e below Q T (mkF m pc' Ls (.int z :: rest))) : own_Go p e below Q T (mkF m pc Ls (.int x :: rest)) := by
  subst hp hz; exact own_go (fun t k' => XS.i2c X.here hx rfl hd rfl k') q
theorem o_iinc (X : Stand p l e R s m args below meth c T locs cells slots) (hx : p.tables.exec = Jvm.exec) {k : Nat} {i : Int} (hd : decode c.code pc = .ok (.iinc k i, 3)) (hl : Ls[k]? = some (.val (.int x))) (hz : x + Int32.ofInt i = y) (hl' : storeLocals Ls k (.int y) = some l') (hp : pc + 3 = pc') (q : own_Go p e below Q T (mkF m pc' l' rest)) : own_Go p e below Q T (mkF m pc Ls rest) := by
  subst hp hz; exact own_go (fun t k' => XS.iinc X.here hx rfl hd hl hl' k') q
theorem o_dup (X : Stand p l e R s m args below meth c T locs cells slots) (hx : p.tables.exec = Jvm.exec) {v : Value} (hd : decode c.code pc = .ok (.dup, 1)) (hv : v.category = 1) (hp : pc + 1 = pc') (q : own_Go p e below Q T (mkF m pc' Ls (v :: v :: rest))) : own_Go p e below Q T (mkF m pc Ls (v :: rest)) := by
  subst hp; exact own_go (fun t k' => XS.dup X.here hx rfl hd rfl hv k') q
theorem o_pop (X : Stand p l e R s m args below meth c T locs cells slots) (hx : p.tables.exec = Jvm.exec) {v : Value} (hd : decode c.code pc = .ok (.pop, 1)) (hv : v.category = 1) (hp : pc + 1 = pc') (q : own_Go p e below Q T (mkF m pc' Ls rest)) : own_Go p e below Q T (mkF m pc Ls (v :: rest)) := by
  subst hp; exact own_go (fun t k' => XS.pop X.here hx rfl hd rfl hv k') q
theorem o_goto (X : Stand p l e R s m args below meth c T locs cells slots) (hx : p.tables.exec = Jvm.exec) {o : Int} (hd : decode c.code pc = .ok (.goto o, 3)) (ho : 0 ≤ (pc : Int) + o) (hp : ((pc : Int) + o).toNat = pc') (q : own_Go p e below Q T (mkF m pc' Ls rest)) : own_Go p e below Q T (mkF m pc Ls rest) :=
  own_go (fun t k' => XS.goto X.here hx rfl rfl hd ho hp k') q
theorem o_ifP (X : Stand p l e R s m args below meth c T locs cells slots) (hx : p.tables.exec = Jvm.exec) {cd : ClassFile.Cond} {o : Int} {P : Prop} [Decidable P] (hP : P → ifCond.holds cd x = true) (hN : ¬ P → ifCond.holds cd x = false) (hd : decode c.code pc = .ok (.ifCond cd o, 3)) (ho : 0 ≤ (pc : Int) + o) (hp : ((pc : Int) + o).toNat = pc1) (hp2 : pc + 3 = pc2)
    (kt : P → own_Go p e below Q T (mkF m pc1 Ls rest)) (kf : ¬ P → own_Go p e below Q T (mkF m pc2 Ls rest)) : own_Go p e below Q T (mkF m pc Ls (.int x :: rest)) := by
  subst hp2
  by_cases q : P
  · exact own_go (fun t k' => XS.ifYes X.here hx rfl rfl hd rfl (hP q) ho hp k') (kt q)
  · exact own_go (fun t k' => XS.ifNo X.here hx rfl hd rfl (hN q) k') (kf q)
theorem o_ifN (X : Stand p l e R s m args below meth c T locs cells slots) (hx : p.tables.exec = Jvm.exec) {cd : ClassFile.Cond} {o : Int} {P : Prop} [Decidable P] (hP : P → ifCond.holds cd x = false) (hN : ¬ P → ifCond.holds cd x = true) (hd : decode c.code pc = .ok (.ifCond cd o, 3)) (ho : 0 ≤ (pc : Int) + o) (hp : ((pc : Int) + o).toNat = pc1) (hp2 : pc + 3 = pc2)
    (kt : ¬ P → own_Go p e below Q T (mkF m pc1 Ls rest)) (kf : P → own_Go p e below Q T (mkF m pc2 Ls rest)) : own_Go p e below Q T (mkF m pc Ls (.int x :: rest)) := by
  subst hp2
  by_cases q : P
  · exact own_go (fun t k' => XS.ifNo X.here hx rfl hd rfl (hP q) k') (kf q)
  · exact own_go (fun t k' => XS.ifYes X.here hx rfl rfl hd rfl (hN q) ho hp k') (kt q)
theorem o_icP (X : Stand p l e R s m args below meth c T locs cells slots) (hx : p.tables.exec = Jvm.exec) {cd : ClassFile.Cond} {o : Int} {P : Prop} [Decidable P] (hP : P → if_icmp.holds cd x y = true) (hN : ¬ P → if_icmp.holds cd x y = false) (hd : decode c.code pc = .ok (.if_icmp cd o, 3)) (ho : 0 ≤ (pc : Int) + o) (hp : ((pc : Int) + o).toNat = pc1) (hp2 : pc + 3 = pc2)
    (kt : P → own_Go p e below Q T (mkF m pc1 Ls rest)) (kf : ¬ P → own_Go p e below Q T (mkF m pc2 Ls rest)) : own_Go p e below Q T (mkF m pc Ls (.int y :: .int x :: rest)) := by
  subst hp2
  by_cases q : P
  · exact own_go (fun t k' => XS.icmpYes X.here hx rfl rfl hd rfl (hP q) ho hp k') (kt q)
  · exact own_go (fun t k' => XS.icmpNo X.here hx rfl hd rfl (hN q) k') (kf q)
theorem o_icN (X : Stand p l e R s m args below meth c T locs cells slots) (hx : p.tables.exec = Jvm.exec) {cd : ClassFile.Cond} {o : Int} {P : Prop} [Decidable P] (hP : P → if_icmp.holds cd x y = false) (hN : ¬ P → if_icmp.holds cd x y = true) (hd : decode c.code pc = .ok (.if_icmp cd o, 3)) (ho : 0 ≤ (pc : Int) + o) (hp : ((pc : Int) + o).toNat = pc1) (hp2 : pc + 3 = pc2)
    (kt : ¬ P → own_Go p e below Q T (mkF m pc1 Ls rest)) (kf : P → own_Go p e below Q T (mkF m pc2 Ls rest)) : own_Go p e below Q T (mkF m pc Ls (.int y :: .int x :: rest)) := by
  subst hp2
  by_cases q : P
  · exact own_go (fun t k' => XS.icmpNo X.here hx rfl hd rfl (hP q) k') (kf q)
  · exact own_go (fun t k' => XS.icmpYes X.here hx rfl rfl hd rfl (hN q) ho hp k') (kt q)
/-- a branch that goes one way for sure -/
theorem o_ifY (X : Stand p l e R s m args below meth c T locs cells slots) (hx : p.tables.exec = Jvm.exec) {cd : ClassFile.Cond} {o : Int} (hc : ifCond.holds cd x = true) (hd : decode c.code pc = .ok (.ifCond cd o, 3)) (ho : 0 ≤ (pc : Int) + o) (hp : ((pc : Int) + o).toNat = pc') (q : own_Go p e below Q T (mkF m pc' Ls rest)) : own_Go p e below Q T (mkF m pc Ls (.int x :: rest)) :=
  own_go (fun t k' => XS.ifYes X.here hx rfl rfl hd rfl hc ho hp k') q
theorem o_ifX (X : Stand p l e R s m args below meth c T locs cells slots) (hx : p.tables.exec = Jvm.exec) {cd : ClassFile.Cond} {o : Int} (hc : ifCond.holds cd x = false) (hd : decode c.code pc = .ok (.ifCond cd o, 3)) (hp : pc + 3 = pc') (q : own_Go p e below Q T (mkF m pc' Ls rest)) : own_Go p e below Q T (mkF m pc Ls (.int x :: rest)) := by
  subst hp; exact own_go (fun t k' => XS.ifNo X.here hx rfl hd rfl hc k') q
theorem o_icY (X : Stand p l e R s m args below meth c T locs cells slots) (hx : p.tables.exec = Jvm.exec) {cd : ClassFile.Cond} {o : Int} (hc : if_icmp.holds cd x y = true) (hd : decode c.code pc = .ok (.if_icmp cd o, 3)) (ho : 0 ≤ (pc : Int) + o) (hp : ((pc : Int) + o).toNat = pc') (q : own_Go p e below Q T (mkF m pc' Ls rest)) : own_Go p e below Q T (mkF m pc Ls (.int y :: .int x :: rest)) :=
  own_go (fun t k' => XS.icmpYes X.here hx rfl rfl hd rfl hc ho hp k') q
theorem o_icX (X : Stand p l e R s m args below meth c T locs cells slots) (hx : p.tables.exec = Jvm.exec) {cd : ClassFile.Cond} {o : Int} (hc : if_icmp.holds cd x y = false) (hd : decode c.code pc = .ok (.if_icmp cd o, 3)) (hp : pc + 3 = pc') (q : own_Go p e below Q T (mkF m pc' Ls rest)) : own_Go p e below Q T (mkF m pc Ls (.int y :: .int x :: rest)) := by
  subst hp; exact own_go (fun t k' => XS.icmpNo X.here hx rfl hd rfl hc k') q
theorem o_lcmp (X : Stand p l e R s m args below meth c T locs cells slots) (hx : p.tables.exec = Jvm.exec) (hd : decode c.code pc = .ok (.lcmp, 1)) (hp : pc + 1 = pc') (q : own_Go p e below Q T (mkF m pc' Ls (.int (XT.cmpL u w) :: rest))) : own_Go p e below Q T (mkF m pc Ls (.long w :: .long u :: rest)) := by
  subst hp; exact own_go (fun t k' => XS.lcmp X.here hx rfl hd rfl k') q
theorem o_ifnullX (X : Stand p l e R s m args below meth c T locs cells slots) (hx : p.tables.exec = Jvm.exec) {o : Int} {a : Addr} (hd : decode c.code pc = .ok (.ifnull o, 3)) (hp : pc + 3 = pc') (q : own_Go p e below Q T (mkF m pc' Ls rest)) : own_Go p e below Q T (mkF m pc Ls (.ref a :: rest)) := by
  subst hp; exact own_go (fun t k' => XS.ifnullNo X.here hx rfl hd rfl k') q
/-- the ends -/
theorem o_ret (X : Stand p l e R s m args below meth c T locs cells slots) {v : Option Value} {g : JFrame} (hv : meth.sig.returnType = none → v = none) (hlk : meth.locks = false) (hc : cells ≤ cc) (hs : slots ≤ ss) (eT : T.heap = h) (hK : K v h locs)
    (st : ∀ fs : List Frame, (∀ (f : JFrame) (acts : List Action), f.method = m → f.locked = none → f.entered = [] → (doReturn e (T.setTop f) acts v).1 = T.setFrames fs) → Steps p.tables e below (T.setTop g) (T.setFrames fs)) : own_Go p e below (own_Q s K cc ss) T g := by
  subst eT
  obtain ⟨fs, hr, hrun, hended, hW, hsame⟩ := X.leave (v := v) hv hlk
  exact ⟨_, _, st fs hr, hrun, hended, _, _, rfl, hK, ⟨_, rfl⟩, hW, hsame.mono hc hs⟩
theorem o_retV (X : Stand p l e R s m args below meth c T locs cells slots) (hx : p.tables.exec = Jvm.exec) (hret : meth.sig.returnType = none) (hlk : meth.locks = false) (hd : decode c.code pc = .ok (.return_, 1)) (hc : cells ≤ cc) (hs : slots ≤ ss) (eT : T.heap = h) (hK : K none h locs) : own_Go p e below (own_Q s K cc ss) T (mkF m pc Ls []) :=
  o_ret X (fun _ => rfl) hlk hc hs eT hK fun fs hr => X.returnOut hx hret hd hr
theorem o_retI (X : Stand p l e R s m args below meth c T locs cells slots) (hx : p.tables.exec = Jvm.exec) (hret : meth.sig.returnType = some .int) (hlk : meth.locks = false) (hd : decode c.code pc = .ok (.ireturn, 1)) (hc : cells ≤ cc) (hs : slots ≤ ss) (eT : T.heap = h) (hK : K (some (.int x)) h locs) : own_Go p e below (own_Q s K cc ss) T (mkF m pc Ls (.int x :: rest)) :=
  o_ret X (fun h => by rw [hret] at h; cases h) hlk hc hs eT hK fun fs hr => retI X hx hret hd hr
theorem o_retN (X : Stand p l e R s m args below meth c T locs cells slots) (hx : p.tables.exec = Jvm.exec) {t : FieldType} (hret : meth.sig.returnType = some t) (ht : t = .boolean ∨ t = .byte ∨ t = .char ∨ t = .short) (hlk : meth.locks = false) (hd : decode c.code pc = .ok (.ireturn, 1)) (hc : cells ≤ cc) (hs : slots ≤ ss) (eT : T.heap = h) (hK : K (some (.int (nar t x))) h locs) : own_Go p e below (own_Q s K cc ss) T (mkF m pc Ls (.int x :: rest)) :=
  o_ret X (fun h => by rw [hret] at h; cases h) hlk hc hs eT hK fun fs hr => retN X hx hret ht hd hr
theorem o_retL (X : Stand p l e R s m args below meth c T locs cells slots) (hx : p.tables.exec = Jvm.exec) (hret : meth.sig.returnType = some .long) (hlk : meth.locks = false) (hd : decode c.code pc = .ok (.lreturn, 1)) (hc : cells ≤ cc) (hs : slots ≤ ss) (eT : T.heap = h) (hK : K (some (.long u)) h locs) : own_Go p e below (own_Q s K cc ss) T (mkF m pc Ls (.long u :: rest)) :=
  o_ret X (fun h => by rw [hret] at h; cases h) hlk hc hs eT hK fun fs hr => by
    jvm_step X.here [X.here.top, hx, hd, X.method', hret, narrow]
    first | (intro acts; rw [hr _ acts rfl rfl rfl]) | rw [hr _ _ rfl rfl rfl]
    exact Steps.refl _
theorem o_retA (X : Stand p l e R s m args below meth c T locs cells slots) (hx : p.tables.exec = Jvm.exec) {t : FieldType} (hret : meth.sig.returnType = some (.array t)) (hlk : meth.locks = false) {a : Addr} (hd : decode c.code pc = .ok (.areturn, 1)) (hc : cells ≤ cc) (hs : slots ≤ ss) (eT : T.heap = h) (hK : K (some (.ref a)) h locs) : own_Go p e below (own_Q s K cc ss) T (mkF m pc Ls (.ref a :: rest)) :=
  o_ret X (fun h => by rw [hret] at h; cases h) hlk hc hs eT hK fun fs hr => by
    jvm_step X.here [X.here.top, hx, hd, X.method', hret, Value.isRef, FieldType.isReference]
    first | (intro acts; rw [hr _ acts rfl rfl rfl]) | rw [hr _ _ rfl rfl rfl]
    exact Steps.refl _
/-- arrays as lists -/
def own_AI (Z : State) (h : Heap) (a : Addr) (ty : FieldType) (vs : List Int32) : Prop := ∃ cl : Cell, Arr Z h a cl ty ∧ cl.slots = (vs.map Value.int).toArray
def own_AJ (Z : State) (h : Heap) (a : Addr) (vs : List Int64) : Prop := ∃ cl : Cell, Arr Z h a cl .long ∧ cl.slots = (vs.map Value.long).toArray
def own_in (n : Nat) (j : Int32) : Prop := ¬ j < 0 ∧ j.toNatClampNeg < n
def own_get (vs : List Int32) (j : Int32) : Int32 := vs.getD j.toNatClampNeg 0
def own_getL (vs : List Int64) (j : Int32) : Int64 := vs.getD j.toNatClampNeg 0
def own_set (vs : List Int32) (j x : Int32) : List Int32 := vs.set j.toNatClampNeg x
def own_setL (vs : List Int64) (j : Int32) (u : Int64) : List Int64 := vs.set j.toNatClampNeg u
theorem own_AI.lt {a : Addr} {ty : FieldType} {vs : List Int32} (A : own_AI Z h a ty vs) : a < h.size := by obtain ⟨cl, A, -⟩ := A; exact A.lt
theorem own_AI.ext {a : Addr} {ty : FieldType} {vs : List Int32} (A : own_AI Z h a ty vs) (E : Ext h h') : own_AI Z h' a ty vs := by obtain ⟨cl, A, q⟩ := A; exact ⟨cl, A.ext E, q⟩
theorem own_AI.other {a b : Addr} {ty : FieldType} {vs : List Int32} {sl : Nat} {v : Value} (A : own_AI Z h a ty vs) (W : Wr h h' b sl v) (ne : a ≠ b) : own_AI Z h' a ty vs := by obtain ⟨cl, A, q⟩ := A; exact ⟨cl, A.other W ne, q⟩
theorem own_AI.keep {a : Addr} {ty : FieldType} {vs : List Int32} {ws : List Addr} (A : own_AI Z h a ty vs) (K : Keep h h' ws) (ne : a ∉ ws) : own_AI Z h' a ty vs := by obtain ⟨cl, A, q⟩ := A; exact ⟨cl, ⟨K.2.1 a cl A.1 ne, A.2⟩, q⟩
theorem own_AI.put {a : Addr} {ty : FieldType} {vs : List Int32} {j : Int32} (A : own_AI Z h a ty vs) (W : Wr h h' a j.toNatClampNeg (.int x)) : own_AI Z h' a ty (own_set vs j x) := by
  obtain ⟨cl, A, q⟩ := A
  refine ⟨_, A.same W, ?_⟩
  show cl.slots.setIfInBounds _ _ = _
  rw [q, own_set, List.map_set, List.setIfInBounds_toArray]
theorem own_AJ.lt {a : Addr} {vs : List Int64} (A : own_AJ Z h a vs) : a < h.size := by obtain ⟨cl, A, -⟩ := A; exact A.lt
theorem own_AJ.ext {a : Addr} {vs : List Int64} (A : own_AJ Z h a vs) (E : Ext h h') : own_AJ Z h' a vs := by obtain ⟨cl, A, q⟩ := A; exact ⟨cl, A.ext E, q⟩
theorem own_AJ.other {a b : Addr} {vs : List Int64} {sl : Nat} {v : Value} (A : own_AJ Z h a vs) (W : Wr h h' b sl v) (ne : a ≠ b) : own_AJ Z h' a vs := by obtain ⟨cl, A, q⟩ := A; exact ⟨cl, A.other W ne, q⟩
theorem own_AJ.keep {a : Addr} {vs : List Int64} {ws : List Addr} (A : own_AJ Z h a vs) (K : Keep h h' ws) (ne : a ∉ ws) : own_AJ Z h' a vs := by obtain ⟨cl, A, q⟩ := A; exact ⟨cl, ⟨K.2.1 a cl A.1 ne, A.2⟩, q⟩
theorem own_AJ.put {a : Addr} {vs : List Int64} {j : Int32} (A : own_AJ Z h a vs) (W : Wr h h' a j.toNatClampNeg (.long u)) : own_AJ Z h' a (own_setL vs j u) := by
  obtain ⟨cl, A, q⟩ := A
  refine ⟨_, A.same W, ?_⟩
  show cl.slots.setIfInBounds _ _ = _
  rw [q, own_setL, List.map_set, List.setIfInBounds_toArray]
theorem own_inA {n : Nat} {j : Int32} {cl : Cell} (hj : own_in n j) (hn : cl.slots.size = n) : ¬ (j < 0 ∨ cl.slots.size ≤ j.toNatClampNeg) := fun q => q.elim hj.1 fun q => by rw [hn] at q; exact Nat.not_lt.mpr q hj.2
theorem own_szI {cl : Cell} {vs : List Int32} (q : cl.slots = (vs.map Value.int).toArray) : cl.slots.size = vs.length := by rw [q]; simp
theorem own_szJ {cl : Cell} {vs : List Int64} (q : cl.slots = (vs.map Value.long).toArray) : cl.slots.size = vs.length := by rw [q]; simp
theorem own_atI {cl : Cell} {vs : List Int32} {j : Int32} (q : cl.slots = (vs.map Value.int).toArray) (hj : own_in vs.length j) : cl.slots[j.toNatClampNeg]? = some (.int (own_get vs j)) := by
  rw [q, List.getElem?_toArray, List.getElem?_map, List.getElem?_eq_getElem hj.2, own_get, List.getD_eq_getElem?_getD, List.getElem?_eq_getElem hj.2]; rfl
theorem own_atJ {cl : Cell} {vs : List Int64} {j : Int32} (q : cl.slots = (vs.map Value.long).toArray) (hj : own_in vs.length j) : cl.slots[j.toNatClampNeg]? = some (.long (own_getL vs j)) := by
  rw [q, List.getElem?_toArray, List.getElem?_map, List.getElem?_eq_getElem hj.2, own_getL, List.getD_eq_getElem?_getD, List.getElem?_eq_getElem hj.2]; rfl
theorem o_iaload (X : Stand p l e R s m args below meth c T locs cells slots) (hx : p.tables.exec = Jvm.exec) (hZ : Z.Warmed39 s.vm) (eT : T.heap = h) {a : Addr} {vs : List Int32} {j : Int32} (A : own_AI Z h a .int vs) (hj : own_in vs.length j) (hd : decode c.code pc = .ok (.iaload, 1)) (hp : pc + 1 = pc') (hv : own_get vs j = x) (q : own_Go p e below Q T (mkF m pc' Ls (.int x :: rest))) : own_Go p e below Q T (mkF m pc Ls (.int j :: .ref a :: rest)) := by
  subst hp hv
  obtain ⟨cl, A, qs⟩ := A
  exact own_go (fun t k' => X.iaload hx (by rw [eT]; exact A.1) (State.isArrayOf_alike hZ.alike A.2.1) A.2.2 (own_inA hj (own_szI qs)) (own_atI qs hj) (g := mkF m pc Ls (.int j :: .ref a :: rest)) rfl rfl hd t k') q
theorem o_baload (X : Stand p l e R s m args below meth c T locs cells slots) (hx : p.tables.exec = Jvm.exec) (hZ : Z.Warmed39 s.vm) (eT : T.heap = h) {a : Addr} {vs : List Int32} {j : Int32} (A : own_AI Z h a .byte vs) (hj : own_in vs.length j) (hd : decode c.code pc = .ok (.baload, 1)) (hp : pc + 1 = pc') (hv : own_get vs j = x) (q : own_Go p e below Q T (mkF m pc' Ls (.int x :: rest))) : own_Go p e below Q T (mkF m pc Ls (.int j :: .ref a :: rest)) := by
  subst hp hv
  obtain ⟨cl, A, qs⟩ := A
  exact own_go (fun t k' => X.baloadBytes hx (by rw [eT]; exact A.1) (State.isArrayOf_alike hZ.alike A.2.1) A.2.2 (own_inA hj (own_szI qs)) (own_atI qs hj) (g := mkF m pc Ls (.int j :: .ref a :: rest)) rfl rfl hd t k') q
theorem o_laload (X : Stand p l e R s m args below meth c T locs cells slots) (hx : p.tables.exec = Jvm.exec) (hZ : Z.Warmed39 s.vm) (eT : T.heap = h) {a : Addr} {vs : List Int64} {j : Int32} (A : own_AJ Z h a vs) (hj : own_in vs.length j) (hd : decode c.code pc = .ok (.laload, 1)) (hp : pc + 1 = pc') (hv : own_getL vs j = u) (q : own_Go p e below Q T (mkF m pc' Ls (.long u :: rest))) : own_Go p e below Q T (mkF m pc Ls (.int j :: .ref a :: rest)) := by
  subst hp hv
  obtain ⟨cl, A, qs⟩ := A
  exact own_go (fun t k' => X.laload hx (by rw [eT]; exact A.1) (State.isArrayOf_alike hZ.alike A.2.1) A.2.2 (own_inA hj (own_szJ qs)) (own_atJ qs hj) (g := mkF m pc Ls (.int j :: .ref a :: rest)) rfl rfl hd t k') q
/-- the length as arraylength pushes it -/
def own_len (n : Nat) : Int32 := n.toInt32
theorem o_alenI (X : Stand p l e R s m args below meth c T locs cells slots) (hx : p.tables.exec = Jvm.exec) (hZ : Z.Warmed39 s.vm) (eT : T.heap = h) {a : Addr} {ty : FieldType} {vs : List Int32} (A : own_AI Z h a ty vs) (hd : decode c.code pc = .ok (.arraylength, 1)) (hp : pc + 1 = pc') (hv : own_len vs.length = x) (q : own_Go p e below Q T (mkF m pc' Ls (.int x :: rest))) : own_Go p e below Q T (mkF m pc Ls (.ref a :: rest)) := by
  subst hp hv
  obtain ⟨cl, A, qs⟩ := A
  refine own_go (fun t k' => X.arraylength hx (by rw [eT]; exact A.1) (State.isArrayOf_alike hZ.alike A.2.1) (g := mkF m pc Ls (.ref a :: rest)) rfl rfl hd t k') ?_
  rw [own_szI qs]; exact q
theorem o_alenJ (X : Stand p l e R s m args below meth c T locs cells slots) (hx : p.tables.exec = Jvm.exec) (hZ : Z.Warmed39 s.vm) (eT : T.heap = h) {a : Addr} {vs : List Int64} (A : own_AJ Z h a vs) (hd : decode c.code pc = .ok (.arraylength, 1)) (hp : pc + 1 = pc') (hv : own_len vs.length = x) (q : own_Go p e below Q T (mkF m pc' Ls (.int x :: rest))) : own_Go p e below Q T (mkF m pc Ls (.ref a :: rest)) := by
  subst hp hv
  obtain ⟨cl, A, qs⟩ := A
  refine own_go (fun t k' => X.arraylength hx (by rw [eT]; exact A.1) (State.isArrayOf_alike hZ.alike A.2.1) (g := mkF m pc Ls (.ref a :: rest)) rfl rfl hd t k') ?_
  rw [own_szJ qs]; exact q
/-- stores: the place stays in locs -/
theorem o_iastore (X : Stand p l e R s m args below meth c T locs cells slots) (hx : p.tables.exec = Jvm.exec) (hZ : Z.Warmed39 s.vm) (eT : T.heap = h) {a : Addr} {vs vs' : List Int32} {j : Int32} (A : own_AI Z h a .int vs) (hj : own_in vs.length j) (hd : decode c.code pc = .ok (.iastore, 1)) (hp : pc + 1 = pc') (hv : own_set vs j x = vs')
    (k : ∀ T' h', Stand p l e R s m args below meth c T' (locs ++ [⟨a, j.toNatClampNeg⟩]) cells slots → T'.heap = h' → Wr h h' a j.toNatClampNeg (.int x) → own_AI Z h' a .int vs' → own_Go p e below Q T' (mkF m pc' Ls rest)) : own_Go p e below Q T (mkF m pc Ls (.int x :: .int j :: .ref a :: rest)) := by
  subst hp hv
  obtain ⟨cl, A', qs⟩ := id A
  obtain ⟨T', h', X', e', W, st⟩ := stI X hx hZ eT A' (own_inA hj (own_szI qs)) (g := mkF m pc Ls (.int x :: .int j :: .ref a :: rest)) rfl rfl hd
  exact own_go st (k T' h' X' e' W (A.put W))
theorem o_bastore (X : Stand p l e R s m args below meth c T locs cells slots) (hx : p.tables.exec = Jvm.exec) (hZ : Z.Warmed39 s.vm) (eT : T.heap = h) {a : Addr} {vs vs' : List Int32} {j : Int32} (A : own_AI Z h a .byte vs) (hj : own_in vs.length j) (hd : decode c.code pc = .ok (.bastore, 1)) (hp : pc + 1 = pc') (hv : own_set vs j (own_i2b x) = vs')
    (k : ∀ T' h', Stand p l e R s m args below meth c T' (locs ++ [⟨a, j.toNatClampNeg⟩]) cells slots → T'.heap = h' → Wr h h' a j.toNatClampNeg (.int (own_i2b x)) → own_AI Z h' a .byte vs' → own_Go p e below Q T' (mkF m pc' Ls rest)) : own_Go p e below Q T (mkF m pc Ls (.int x :: .int j :: .ref a :: rest)) := by
  subst hp hv
  obtain ⟨cl, A', qs⟩ := id A
  obtain ⟨T', h', X', e', W, st⟩ := stB X hx hZ eT A' (own_inA hj (own_szI qs)) (g := mkF m pc Ls (.int x :: .int j :: .ref a :: rest)) rfl rfl hd
  exact own_go st (k T' h' X' e' W (A.put W))
theorem o_lastore (X : Stand p l e R s m args below meth c T locs cells slots) (hx : p.tables.exec = Jvm.exec) (hZ : Z.Warmed39 s.vm) (eT : T.heap = h) {a : Addr} {vs vs' : List Int64} {j : Int32} (A : own_AJ Z h a vs) (hj : own_in vs.length j) (hd : decode c.code pc = .ok (.lastore, 1)) (hp : pc + 1 = pc') (hv : own_setL vs j u = vs')
    (k : ∀ T' h', Stand p l e R s m args below meth c T' (locs ++ [⟨a, j.toNatClampNeg⟩]) cells slots → T'.heap = h' → Wr h h' a j.toNatClampNeg (.long u) → own_AJ Z h' a vs' → own_Go p e below Q T' (mkF m pc' Ls rest)) : own_Go p e below Q T (mkF m pc Ls (.long u :: .int j :: .ref a :: rest)) := by
  subst hp hv
  obtain ⟨cl, A', qs⟩ := id A
  obtain ⟨T', h', X', e', W, st⟩ := stJ X hx hZ eT A' (own_inA hj (own_szJ qs)) (g := mkF m pc Ls (.long u :: .int j :: .ref a :: rest)) rfl rfl hd
  exact own_go st (k T' h' X' e' W (A.put W))
theorem own_sz (X : Stand p l e R s m args below meth c T locs cells slots) (eT : T.heap = h) : s.heap.size ≤ h.size := by
  have q := X.same.2.1
  rw [← eT]; exact q
/-- the place written lies in a cell made since the start: it needn't be told -/
theorem own_drop {a : Addr} {j : Nat} (X : Stand p l e R s m args below meth c T (locs ++ [⟨a, j⟩]) cells slots) (ha : s.heap.size ≤ a) : Stand p l e R s m args below meth c T locs cells slots := X.forget fun y hy => by cases List.mem_singleton.mp hy; exact ha
theorem own_dropL {L : List Loc} {k : Nat} (X : Stand p l e R s m args below meth c T (locs ++ L) cells slots) (ha : s.heap.size ≤ k) (hL : ∀ y ∈ L, k ≤ y.base) : Stand p l e R s m args below meth c T locs cells slots := X.forget fun y hy => Nat.le_trans ha (hL y hy)
/-- newarray -/
theorem o_newI (X : Stand p l e R s m args below meth c T locs cells slots) (hx : p.tables.exec = Jvm.exec) (hZ : Z.Warmed39 s.vm) (eT : T.heap = h) {aty : ArrayType} {ty : FieldType} (w1 : (Cond.arrayClass ty).before a0 Z = true) (hty : newarray.typeOf aty = ty) (hdv : defaultValue ty = .int 0) (hd : decode c.code pc = .ok (.newarray aty, 2)) (hp : pc + 2 = pc') (hn : ¬ x < 0) {cap : Nat} (hcap : x.toNatClampNeg ≤ cap) (hb : cap * 8 ≤ 536870912) (hc : cells + 1 ≤ R.cells) (hs : slots + cap ≤ R.slots) {vs : List Int32} (hv : List.replicate x.toNatClampNeg 0 = vs)
    (k : ∀ T' h' a, Stand p l e R s m args below meth c T' locs (cells + 1) (slots + cap) → T'.heap = h' → h.size = a → Ext h h' → own_AI Z h' a ty vs → own_Go p e below Q T' (mkF m pc' Ls (.ref a :: rest))) : own_Go p e below Q T (mkF m pc Ls (.int x :: rest)) := by
  subst hp hv hty
  obtain ⟨T', h', cA, X', e', E, A, st⟩ := newP X hx hZ w1 eT (g := mkF m pc Ls (.int x :: rest)) rfl hd rfl hn hcap hb hc hs
  exact own_go st (k T' h' _ X' e' rfl E ⟨_, A, by simp [newA, hdv]⟩)
theorem o_newJ (X : Stand p l e R s m args below meth c T locs cells slots) (hx : p.tables.exec = Jvm.exec) (hZ : Z.Warmed39 s.vm) (eT : T.heap = h) (w1 : (Cond.arrayClass .long).before a0 Z = true) (hd : decode c.code pc = .ok (.newarray .long, 2)) (hp : pc + 2 = pc') (hn : ¬ x < 0) {cap : Nat} (hcap : x.toNatClampNeg ≤ cap) (hb : cap * 8 ≤ 536870912) (hc : cells + 1 ≤ R.cells) (hs : slots + cap ≤ R.slots) {vs : List Int64} (hv : List.replicate x.toNatClampNeg 0 = vs)
    (k : ∀ T' h' a, Stand p l e R s m args below meth c T' locs (cells + 1) (slots + cap) → T'.heap = h' → h.size = a → Ext h h' → own_AJ Z h' a vs → own_Go p e below Q T' (mkF m pc' Ls (.ref a :: rest))) : own_Go p e below Q T (mkF m pc Ls (.int x :: rest)) := by
  subst hp hv
  obtain ⟨T', h', cA, X', e', E, A, st⟩ := newP X hx hZ (aty := .long) w1 eT (g := mkF m pc Ls (.int x :: rest)) rfl hd rfl hn hcap hb hc hs
  exact own_go st (k T' h' _ X' e' rfl E ⟨_, A, by simp [newA, show defaultValue (newarray.typeOf .long) = Value.long 0 from rfl]⟩)
/-- a static call by the callee's contract -/
theorem o_callS (X : Stand p l e R s m args below meth c T locs cells slots) (hx : p.tables.exec = Jvm.exec) (hZ : Z.Warmed39 s.vm) (eT : T.heap = h) {own : String} {index : Nat} {y : MethodName} {bytes : ByteArray} {maxL : Nat} {ret : Option FieldType} {rm : Room} {W : Nat} (hown : s.vm.findClass own = some m.cls)
    (w1 : (Cond.methodLink own index y).before a0 Z = true) (w2 : (Cond.static y).before a0 Z = true) (w3 : (Cond.initialized y.cls).before a0 Z = true) (w4 : (Cond.code y bytes maxL ret).before a0 Z = true) (hy : y.cls ≠ "java/lang/invoke/MethodHandle" ∧ y.cls ≠ "java/lang/invoke/VarHandle") {as' : Array Value} {K : Option Value → Heap → List Loc → Prop}
    (hM : MetFree l y (head1 [Cond.code y bytes maxL ret] rm) (fun a U => a = as' ∧ Z.Warmed39 U.vm ∧ U.heap = h) (fun _ _ _ _ _ => True) (fun _ U o U' => ∃ v L, o = .returned v ∧ K v U'.heap L ∧ FrameEnd U o U' L rm.cells rm.slots))
    (hf : rm.frames + 1 ≤ R.frames) (hl : W + (maxL + 11) + rm.locals ≤ R.locals) (hml : Ls.size = c.maxLocals) {argsL st : List Value} {sig : MethodDescriptor} (hpd : parseMethodDescriptor y.desc = some sig) (hlen : argsL.length = sig.parameters.length) (hst : st = argsL.reverse ++ rest) (has : argsL.toArray = as') (hW : (rest.map fun v => v.category).sum = W)
    (hd : decode c.code pc = .ok (.invokestatic index, 3)) (hp : pc + 3 = pc') (hc : cells + rm.cells ≤ R.cells) (hs : slots + rm.slots ≤ R.slots)
    (k : ∀ v T' L, Stand p l e R s m args below meth c T' (locs ++ L) (cells + rm.cells) (slots + rm.slots) → K v T'.heap L → own_Go p e below Q T' (mkF m pc' Ls (v.toList ++ rest))) : own_Go p e below Q T (mkF m pc Ls st) := by
  subst hp hst has
  obtain ⟨v, _, ⟨T1, L1, k1, n1⟩, -, X1, ⟨Lc, hQ, l1, y1, z1⟩, st1⟩ := Jvm.LawKit.callS X hx hown (mvT hZ w1) (mvT hZ w2) (mvT hZ w3) (mvT hZ w4) hy (backOf (W := W) hM hZ w4 w3 hf hl) (g := mkF m pc Ls (argsL.reverse ++ rest)) rfl hml (argsL := argsL) (rest := rest) (fun sg hsg => by cases hpd.symm.trans hsg; exact hlen) rfl (by show 2 * 0 + _ ≤ _; rw [hW]; omega) hd (fun _ _ => ⟨rfl, eT, hc, hs⟩)
  dsimp only [Pt.U, Pt.locs, Pt.cells, Pt.slots] at X1 l1 y1 z1 st1 hQ
  subst l1 y1 z1
  exact own_go st1 (k v T1 Lc X1 hQ)
/-- a body that writes nothing: what it returns, the heap as it was -/
def own_KP (V : Option Value) (h0 : Heap) : Option Value → Heap → List Loc → Prop := fun v h L => v = V ∧ h = h0 ∧ L = []
/-- a law: what it returns; nothing old is written -/
def own_KL (V : Option Value) : Option Value → Heap → List Loc → Prop := fun v _ L => v = V ∧ L = []
theorem o_callP (X : Stand p l e R s m args below meth c T locs cells slots) (hx : p.tables.exec = Jvm.exec) (hZ : Z.Warmed39 s.vm) (eT : T.heap = h) {own : String} {index : Nat} {y : MethodName} {bytes : ByteArray} {maxL : Nat} {ret : Option FieldType} {rm : Room} {W : Nat} (hown : s.vm.findClass own = some m.cls)
    (w1 : (Cond.methodLink own index y).before a0 Z = true) (w2 : (Cond.static y).before a0 Z = true) (w3 : (Cond.initialized y.cls).before a0 Z = true) (w4 : (Cond.code y bytes maxL ret).before a0 Z = true) (hy : y.cls ≠ "java/lang/invoke/MethodHandle" ∧ y.cls ≠ "java/lang/invoke/VarHandle") {as' : Array Value} {V : Option Value}
    (hM : MetFree l y (head1 [Cond.code y bytes maxL ret] rm) (fun a U => a = as' ∧ Z.Warmed39 U.vm ∧ U.heap = h) (fun _ _ _ _ _ => True) (fun _ U o U' => ∃ v L, o = .returned v ∧ own_KP V h v U'.heap L ∧ FrameEnd U o U' L rm.cells rm.slots))
    (hf : rm.frames + 1 ≤ R.frames) (hl : W + (maxL + 11) + rm.locals ≤ R.locals) (hml : Ls.size = c.maxLocals) {argsL st : List Value} {sig : MethodDescriptor} (hpd : parseMethodDescriptor y.desc = some sig) (hlen : argsL.length = sig.parameters.length) (hst : st = argsL.reverse ++ rest) (has : argsL.toArray = as') (hW : (rest.map fun v => v.category).sum = W)
    (hd : decode c.code pc = .ok (.invokestatic index, 3)) (hp : pc + 3 = pc') (hc0 : rm.cells = 0) (hs0 : rm.slots = 0) (hc : cells + rm.cells ≤ R.cells) (hs : slots + rm.slots ≤ R.slots)
    {st' : List Value} (hst' : V.toList ++ rest = st')
    (k : ∀ T', Stand p l e R s m args below meth c T' locs cells slots → T'.heap = h → own_Go p e below Q T' (mkF m pc' Ls st')) : own_Go p e below Q T (mkF m pc Ls st) := by
  subst hst'
  refine o_callS X hx hZ eT hown w1 w2 w3 w4 hy hM hf hl hml hpd hlen hst has hW hd hp hc hs fun v T' L X' hK => ?_
  obtain ⟨rfl, e', rfl⟩ := hK
  rw [hc0, hs0, List.append_nil] at X'
  exact k T' X' e'
theorem own_snoc {a : Addr} {L : List Loc} {j : Nat} (N : ∀ y ∈ L, y.base = a) : ∀ y ∈ L ++ [⟨a, j⟩], y.base = a := fun y hy => (List.mem_append.mp hy).elim (N y) fun q => by cases List.mem_singleton.mp q; rfl
theorem own_nil (X : Stand p l e R s m args below meth c T (locs ++ []) cells slots) : Stand p l e R s m args below meth c T locs cells slots := by rw [List.append_nil] at X; exact X
/-- a body that writes into the array a alone -/
def own_KW (Z : State) (a : Addr) (ty : FieldType) (vs : List Int32) (h0 : Heap) : Option Value → Heap → List Loc → Prop := fun v h L => v = none ∧ (∀ y ∈ L, y.base = a) ∧ Keep h0 h [a] ∧ own_AI Z h a ty vs
def own_KWJ (Z : State) (a : Addr) (vs : List Int64) (h0 : Heap) : Option Value → Heap → List Loc → Prop := fun v h L => v = none ∧ (∀ y ∈ L, y.base = a) ∧ Keep h0 h [a] ∧ own_AJ Z h a vs
/-- a body that makes an array and hands it back -/
def own_KM (Z : State) (ty : FieldType) (vs : List Int32) (h0 : Heap) : Option Value → Heap → List Loc → Prop := fun v h L => ∃ b, v = some (.ref b) ∧ L = [] ∧ Keep h0 h [] ∧ h0.size ≤ b ∧ own_AI Z h b ty vs
/-- a store over a local that held nothing or one word -/
theorem o_istoreNS (X : Stand p l e R s m args below meth c T locs cells slots) (hx : p.tables.exec = Jvm.exec) {k : Fin 4} {o : Slot} (hd : decode c.code pc = .ok (.istore_n k, 1)) (hold : Ls[k.val]? = some o) (ho : One o) (hl : Ls.setIfInBounds k.val (.val (.int x)) = l') (hp : pc + 1 = pc') (q : own_Go p e below Q T (mkF m pc' l' rest)) : own_Go p e below Q T (mkF m pc Ls (.int x :: rest)) := by
  subst hp hl; exact own_go (fun t k' => XS.istoreNS X.here hx rfl hd rfl hold ho k') q
theorem o_istoreS (X : Stand p l e R s m args below meth c T locs cells slots) (hx : p.tables.exec = Jvm.exec) {k : Nat} {o : Slot} (hd : decode c.code pc = .ok (.istore k, 2)) (hold : Ls[k]? = some o) (ho : One o) (hl : Ls.setIfInBounds k (.val (.int x)) = l') (hp : pc + 2 = pc') (q : own_Go p e below Q T (mkF m pc' l' rest)) : own_Go p e below Q T (mkF m pc Ls (.int x :: rest)) := by
  subst hp hl; exact own_go (fun t k' => XS.istoreS X.here hx rfl hd rfl hold ho k') q
theorem o_astoreS (X : Stand p l e R s m args below meth c T locs cells slots) (hx : p.tables.exec = Jvm.exec) {k : Nat} {o : Slot} {v : Value} (hd : decode c.code pc = .ok (.astore k, 2)) (hv : v.isRef = true) (hcat : v.category = 1) (hold : Ls[k]? = some o) (ho : One o) (hl : Ls.setIfInBounds k (.val v) = l') (hp : pc + 2 = pc') (q : own_Go p e below Q T (mkF m pc' l' rest)) : own_Go p e below Q T (mkF m pc Ls (v :: rest)) := by
  subst hp hl; exact own_go (fun t k' => XS.astoreS X.here hx rfl hd rfl hv hcat hold ho k') q
end OwnKit
/-! own facts on numbers (with kit/NumsL) -/
theorem own_tmod (x y : Int32) : (own_rem x y).toInt = x.toInt.tmod y.toInt := by
  have a := (x % y).toInt_lt; have b := (x % y).le_toInt
  rw [Int32.toInt_mod] at a b
  show (x - (x / y) * y).toInt = _
  rw [Int32.toInt_sub, Int32.toInt_mul, Int32.toInt_div, Int.bmod_mul_bmod, Int.sub_bmod_bmod, Int.mul_comm, ← Int.tmod_def]
  exact Jvm.Kit.bmod32 b a
theorem own_emod {x y : Int32} (hx : 0 ≤ x.toInt) : (own_rem x y).toInt = x.toInt % y.toInt := by rw [own_tmod, Int.tmod_eq_emod_of_nonneg hx]
theorem own_lemod {u w : Int64} (hx : 0 ≤ u.toInt) : (own_lrem u w).toInt = u.toInt % w.toInt := Jvm.Kit.i64_rem_nonneg hx
theorem own_max (x : Int32) : (x &&& 2147483647).toInt = x.toInt % 2 ^ 31 := Jvm.Kit.i32_mask x 2147483647 (by decide) (by decide)
/-- x >>> k, k a number from 1 to 31, as a division of the number without sign -/
theorem own_ushr_toNat (x y : Int32) {k : Nat} (hk : (y &&& 31).toUInt32.toNat = k) (h1 : k < 32) : (own_ushr x y).toBitVec.toNat = x.toBitVec.toNat / 2 ^ k := by
  show ((x.toUInt32 >>> (y &&& 31).toUInt32).toInt32).toBitVec.toNat = _
  rw [UInt32.toBitVec_toInt32, UInt32.toBitVec_shiftRight]
  have e : ((y &&& 31).toUInt32.toBitVec % 32).toNat = k := by
    have e0 : (y &&& 31).toUInt32.toBitVec.toNat = k := hk
    rw [BitVec.toNat_umod, e0]
    exact Nat.mod_eq_of_lt h1
  show (x.toBitVec >>> ((y &&& 31).toUInt32.toBitVec % 32).toNat).toNat = _
  rw [e, BitVec.toNat_ushiftRight, Nat.shiftRight_eq_div_pow]
theorem own_ushr_toInt (x y : Int32) {k : Nat} (hk : (y &&& 31).toUInt32.toNat = k) (h0 : 0 < k) (h1 : k < 32) : (own_ushr x y).toInt = (x.toBitVec.toNat / 2 ^ k : Nat) := by
  have h := own_ushr_toNat x y hk h1
  have hb := x.toBitVec.isLt
  have h2 : x.toBitVec.toNat / 2 ^ k ≤ x.toBitVec.toNat / 2 ^ 1 := Nat.div_le_div_left (Nat.pow_le_pow_right (by decide) h0) (by decide)
  have e : (own_ushr x y).toInt = (own_ushr x y).toBitVec.toInt := rfl
  rw [e, BitVec.toInt_eq_toNat_cond, h, if_pos (by omega)]
theorem own_in_of {n : Nat} {j : Int32} (h0 : 0 ≤ j.toInt) (h1 : j.toInt < n) : own_in n j := by
  refine ⟨fun q => ?_, ?_⟩
  · rw [Int32.lt_iff_toInt_lt] at q
    have : (0 : Int32).toInt = 0 := rfl
    omega
  · rw [Int32.toNatClampNeg]; omega
theorem own_lt {x y : Int32} : x < y ↔ x.toInt < y.toInt := Int32.lt_iff_toInt_lt
theorem own_eq {x y : Int32} : x = y ↔ x.toInt = y.toInt := Int32.toInt_inj.symm
theorem own_ltL {x y : Int64} : x < y ↔ x.toInt < y.toInt := Int64.lt_iff_toInt_lt
theorem own_eqL {x y : Int64} : x = y ↔ x.toInt = y.toInt := Int64.toInt_inj.symm
theorem own_nat_toInt {k : Nat} (h : k < 2 ^ 31) : (Int32.ofNat k).toInt = k := Int32.toInt_ofNat_of_lt (by omega)
theorem own_nat_lt {i n : Nat} (hi : i < 2 ^ 31) (hn : n < 2 ^ 31) : Int32.ofNat i < Int32.ofNat n ↔ i < n := by
  rw [own_lt, own_nat_toInt hi, own_nat_toInt hn]; omega
theorem own_nat_one (i : Nat) : Int32.ofNat i + (1 : Int32) = Int32.ofNat (i + 1) := (Int32.ofNat_add i 1).symm
theorem own_nat_clamp {k : Nat} (h : k < 2 ^ 31) : (Int32.ofNat k).toNatClampNeg = k := by
  rw [Int32.toNatClampNeg, own_nat_toInt h]; rfl
theorem own_nat_get (v : List Int32) {k : Nat} (h : k < 2 ^ 31) : own_get v (Int32.ofNat k) = v.getD k 0 := by rw [own_get, own_nat_clamp h]
theorem own_nat_in {n k : Nat} (h : k < n) (hk : k < 2 ^ 31) : own_in n (Int32.ofNat k) := own_in_of (by rw [own_nat_toInt hk]; omega) (by rw [own_nat_toInt hk]; omega)
theorem own_nat_of {x : Int32} (h : 0 ≤ x.toInt) : ∃ k : Nat, x = Int32.ofNat k ∧ (k : Int) = x.toInt ∧ k < 2 ^ 31 := by
  have u := x.toInt_lt
  refine ⟨x.toInt.toNat, ?_, by omega, by omega⟩
  rw [own_eq, own_nat_toInt (by omega)]; omega
theorem own_nat_sub {a b : Nat} (ha : a < 2 ^ 31) (h : b ≤ a) : Int32.ofNat a - Int32.ofNat b = Int32.ofNat (a - b) := by
  have e1 := own_nat_toInt ha
  have e2 := own_nat_toInt (k := b) (by omega)
  have e3 := own_nat_toInt (k := a - b) (by omega)
  rw [own_eq, Jvm.Kit.i32_sub (by omega) (by omega)]
  omega
theorem own_i2b2 (x : Int32) : own_i2b (own_i2b x) = own_i2b x := by
  show (x.toInt8.toInt32).toInt8.toInt32 = x.toInt8.toInt32
  rw [Int8.toInt8_toInt32]
/-- a hash: 31 * h + the next, count times from place i on -/
def own_h (v : List Int32) : Int32 → Nat → Nat → Int32
  | h, _, 0 => h
  | h, i, c + 1 => own_h v (31 * h + v.getD i 0) (i + 1) c
def own_p : Nat → Int32
  | 0 => 1
  | n + 1 => 31 * own_p n
def own_sum (v : List Int32) : Nat → Nat → Int32
  | _, 0 => 0
  | i, c + 1 => v.getD i 0 * own_p c + own_sum v (i + 1) c
theorem own_h_eq (v : List Int32) : ∀ (c : Nat) (h : Int32) (i : Nat), own_h v h i c = h * own_p c + own_sum v i c := by
  intro c
  induction c with
  | zero => intro h i; simp only [own_h, own_p, own_sum, Int32.mul_one, Int32.add_zero]
  | succ c ih =>
    intro h i
    rw [own_h, ih, own_p, own_sum, Int32.add_mul, Int32.mul_comm 31 h, Int32.mul_assoc, Int32.add_assoc]
theorem own_toNat (x : Int32) : (x.toBitVec.toNat : Int) = x.toInt % 2 ^ 32 := by
  have e : x.toInt = x.toBitVec.toInt := rfl
  have h := x.toBitVec.isLt
  rw [e, BitVec.toInt_eq_toNat_cond]
  split <;> omega
theorem pd_0 : parseMethodDescriptor "([BII)J" = some ⟨[(.array .byte), .int, .int], some .long⟩ := by decide +kernel
theorem pd_1 : parseMethodDescriptor "(JI)J" = some ⟨[.long, .int], some .long⟩ := by decide +kernel
theorem pd_2 : parseMethodDescriptor "(IIIJJJJ)B" = some ⟨[.int, .int, .int, .long, .long, .long, .long], some .byte⟩ := by decide +kernel
theorem pd_3 : parseMethodDescriptor "(JJ[BII)J" = some ⟨[.long, .long, (.array .byte), .int, .int], some .long⟩ := by decide +kernel
theorem d4_0 : decode jdk_35_method_51_code 0 = .ok (.lload_n 0, 1) := by decide +kernel
theorem d4_1 : decode jdk_35_method_51_code 1 = .ok (.iload_n 2, 1) := by decide +kernel
theorem d4_2 : decode jdk_35_method_51_code 2 = .ok (.lshl, 1) := by decide +kernel
theorem d4_3 : decode jdk_35_method_51_code 3 = .ok (.lload_n 0, 1) := by decide +kernel
theorem d4_4 : decode jdk_35_method_51_code 4 = .ok (.iload_n 2, 1) := by decide +kernel
theorem d4_5 : decode jdk_35_method_51_code 5 = .ok (.ineg, 1) := by decide +kernel
theorem d4_6 : decode jdk_35_method_51_code 6 = .ok (.lushr, 1) := by decide +kernel
theorem d4_7 : decode jdk_35_method_51_code 7 = .ok (.lor, 1) := by decide +kernel
theorem d4_8 : decode jdk_35_method_51_code 8 = .ok (.lreturn, 1) := by decide +kernel
section Body4
variable {p : Program} {l : Launch} {e : Env} {s : State} {m : MethodId} {args : Array Value} {below : List Frame} {meth : Method} {c : Code} {Z : State} {ag : Array Value} {K : Option Value → Heap → List Loc → Prop}
abbrev R4 : Room := { frames := 0, cells := 0, slots := 0, locals := 0 }
abbrev cc4 : Nat := 0
abbrev ss4 : Nat := 0
def f4_0 (q0 : Int64) (p1 : Int32) : Int64 := ((own_lshl q0 p1) ||| (own_lushr q0 (-p1)))
set_option maxRecDepth 65536 in
set_option maxHeartbeats 40000000 in
theorem b4_0 (C : own_Cx p s m meth c Z ag jdk_35_method_51_code 3 "java/lang/Long" (some .long) "rotateLeft") {T : State} {h : Heap} (q0 : Int64) (p1 : Int32) (X : Stand p l e R4 s m args below meth c T [] 0 0) (eT : T.heap = h) (hK : K (some (.long (f4_0 q0 p1))) h []) : own_Go p e below (own_Q s K cc4 ss4) T (mkF m 0 #[.val (.long q0), .second, .val (.int p1)] []) := by
  obtain ⟨hx, hZ, hw, hby, hml, hown, hret, hlk, hnm⟩ := id C
  unfold f4_0 at hK
  refine o_lloadN (pc' := 1) X hx (hb hby d4_0) rfl rfl ?_
  refine o_iloadN (pc' := 2) X hx (hb hby d4_1) rfl rfl ?_
  refine o_lshl (pc' := 3)  X hx (hb hby d4_2) rfl rfl ?_
  refine o_lloadN (pc' := 4) X hx (hb hby d4_3) rfl rfl ?_
  refine o_iloadN (pc' := 5) X hx (hb hby d4_4) rfl rfl ?_
  refine o_ineg (pc' := 6)  X hx (hb hby d4_5) rfl rfl ?_
  refine o_lushr (pc' := 7)  X hx (hb hby d4_6) rfl rfl ?_
  refine o_lor (pc' := 8)  X hx (hb hby d4_7) rfl rfl ?_
  exact o_retL X hx hret hlk (hb hby d4_8) (by decide) (by decide) eT (hK)

end Body4
theorem pn_Long : plainName "java/lang/Long" = true := by first | (simp [plainName, overriddenIn]; done) | decide +kernel
theorem ef_4 (m : MethodId) (q0 : Int64) (p1 : Int32) : entryFrame m #[(.long q0), (.int p1)] 3 = mkF m 0 #[.val (.long q0), .second, .val (.int p1)] [] := by first | (simp [entryFrame, mkF, argsToLocals, Value.category]; done) | rfl
set_option maxRecDepth 65536 in
set_option maxHeartbeats 40000000 in
theorem rm4 (l : Launch) (Z : State) (ag : Array Value) (hw : ∀ d ∈ tables_1, d.before ag Z = true) (ws : List Jvm.Cond) (q0 : Int64) (p1 : Int32) (h0 : Heap) :
    MetFree l (⟨"java/lang/Long", "rotateLeft", "(JI)J"⟩ : MethodName) (head1 (Jvm.Cond.code (⟨"java/lang/Long", "rotateLeft", "(JI)J"⟩ : MethodName) jdk_35_method_51_code 3 (some .long) :: ws) R4) (fun a U => a = #[(.long q0), (.int p1)] ∧ Z.Warmed39 U.vm ∧ U.heap = h0) (fun _ _ _ _ _ => True) (fun _ U o U' => ∃ v L, o = .returned v ∧ own_KP (some (.long (f4_0 q0 p1))) h0 v U'.heap L ∧ FrameEnd U o U' L R4.cells R4.slots) := by
  refine MetFree.of_bodySF (plainFor_of_name pn_Long) hisR ?_
  intro p e s m args below meth c s₁ Bd hml0 hP hK
  obtain ⟨rfl, hZ, hh⟩ := hP
  have C : own_Cx p s m meth c Z ag jdk_35_method_51_code 3 "java/lang/Long" (some .long) "rotateLeft" := ⟨Bd.exec, hZ, hw, Bd.bytes, hml0, findClass_of_methodNamed Bd.named, Bd.returns, Bd.notSynchronized, (name_of_methodNamed Bd.named Bd.method).1⟩
  have X0 : Stand p l e R4 s m #[(.long q0), (.int p1)] below meth c s₁ [] 0 0 := Stand.of_body Bd
  have e0 : s₁.heap = h0 := by rw [← hh, Bd.state]; rfl
  rw [ef_4]
  exact b4_0 (K := own_KP (some (.long (f4_0 q0 p1))) h0) C q0 p1 X0 e0 ⟨rfl, rfl, rfl⟩

theorem d3_0 : decode prog_73_method_3_code 0 = .ok (.lconst 0, 1) := by decide +kernel
theorem d3_1 : decode prog_73_method_3_code 1 = .ok (.lstore_n 3, 1) := by decide +kernel
theorem d3_2 : decode prog_73_method_3_code 2 = .ok (.iload_n 2, 1) := by decide +kernel
theorem d3_3 : decode prog_73_method_3_code 3 = .ok (.iconst 1, 1) := by decide +kernel
theorem d3_4 : decode prog_73_method_3_code 4 = .ok (.isub, 1) := by decide +kernel
theorem d3_5 : decode prog_73_method_3_code 5 = .ok (.istore 5, 2) := by decide +kernel
theorem d3_7 : decode prog_73_method_3_code 7 = .ok (.iload 5, 2) := by decide +kernel
theorem d3_9 : decode prog_73_method_3_code 9 = .ok (.ifCond .lt 26, 3) := by decide +kernel
theorem d3_12 : decode prog_73_method_3_code 12 = .ok (.lload_n 3, 1) := by decide +kernel
theorem d3_13 : decode prog_73_method_3_code 13 = .ok (.bipush 8, 2) := by decide +kernel
theorem d3_15 : decode prog_73_method_3_code 15 = .ok (.lshl, 1) := by decide +kernel
theorem d3_16 : decode prog_73_method_3_code 16 = .ok (.aload_n 0, 1) := by decide +kernel
theorem d3_17 : decode prog_73_method_3_code 17 = .ok (.iload_n 1, 1) := by decide +kernel
theorem d3_18 : decode prog_73_method_3_code 18 = .ok (.iload 5, 2) := by decide +kernel
theorem d3_20 : decode prog_73_method_3_code 20 = .ok (.iadd, 1) := by decide +kernel
theorem d3_21 : decode prog_73_method_3_code 21 = .ok (.baload, 1) := by decide +kernel
theorem d3_22 : decode prog_73_method_3_code 22 = .ok (.sipush 255, 3) := by decide +kernel
theorem d3_25 : decode prog_73_method_3_code 25 = .ok (.iand, 1) := by decide +kernel
theorem d3_26 : decode prog_73_method_3_code 26 = .ok (.i2l, 1) := by decide +kernel
theorem d3_27 : decode prog_73_method_3_code 27 = .ok (.lor, 1) := by decide +kernel
theorem d3_28 : decode prog_73_method_3_code 28 = .ok (.lstore_n 3, 1) := by decide +kernel
theorem d3_29 : decode prog_73_method_3_code 29 = .ok (.iinc 5 (-1), 3) := by decide +kernel
theorem d3_32 : decode prog_73_method_3_code 32 = .ok (.goto (-25), 3) := by decide +kernel
theorem d3_35 : decode prog_73_method_3_code 35 = .ok (.lload_n 3, 1) := by decide +kernel
theorem d3_36 : decode prog_73_method_3_code 36 = .ok (.lreturn, 1) := by decide +kernel
section Body3
variable {p : Program} {l : Launch} {e : Env} {s : State} {m : MethodId} {args : Array Value} {below : List Frame} {meth : Method} {c : Code} {Z : State} {ag : Array Value} {K : Option Value → Heap → List Loc → Prop}
abbrev R3 : Room := { frames := 0, cells := 0, slots := 0, locals := 0 }
abbrev cc3 : Nat := 0
abbrev ss3 : Nat := 0
def f3_7 : Nat → List Int32 → Int32 → Int64 → Int32 → Int64
  | 0, _, _, _, _ => 0
  | n + 1, v0, x1, x3, x5 => (if x5 < (0 : Int32) then x3 else (f3_7 n v0 x1 ((own_lshl x3 (8 : Int32)) ||| (((own_get v0 (x1 + x5)) &&& (255 : Int32)).toInt64)) (x5 + (-1 : Int32))))
def s3_7 : Nat → List Int32 → Int32 → Int64 → Int32 → Prop
  | 0, _, _, _, _ => False
  | n + 1, v0, x1, x3, x5 => ((x5 < (0 : Int32) → True) ∧ (¬ (x5 < (0 : Int32)) → (own_in v0.length (x1 + x5) ∧ s3_7 n v0 x1 ((own_lshl x3 (8 : Int32)) ||| (((own_get v0 (x1 + x5)) &&& (255 : Int32)).toInt64)) (x5 + (-1 : Int32)))))
set_option maxRecDepth 65536 in
set_option maxHeartbeats 40000000 in
theorem b3_7 (C : own_Cx p s m meth c Z ag prog_73_method_3_code 6 "com/example/fairtally/fairtally/ledger/csv/SipHash" (some .long) "littleEndian") :
    ∀ (n : Nat) {T : State} {h : Heap} {z2 : Slot} (a0 : Addr) (v0 : List Int32) (x1 : Int32) (x3 : Int64) (x5 : Int32) (X : Stand p l e R3 s m args below meth c T [] 0 0) (eT : T.heap = h) (Aa0 : own_AI Z h a0 .byte v0) (hz2 : One z2) (hs : s3_7 n v0 x1 x3 x5) (hK : K (some (.long (f3_7 n v0 x1 x3 x5))) h []), own_Go p e below (own_Q s K cc3 ss3) T (mkF m 7 #[.val (.ref a0), .val (.int x1), z2, .val (.long x3), .second, .val (.int x5)] []) := by
  intro n
  induction n with
  | zero => intros; rename_i hs _; exact hs.elim
  | succ n ih =>
    intro T h z2 a0 v0 x1 x3 x5 X eT Aa0 hz2 hs hK
    obtain ⟨hx, hZ, hw, hby, hml, hown, hret, hlk, hnm⟩ := id C
    unfold f3_7 at hK
    unfold s3_7 at hs
    refine o_iload (pc' := 9) X hx (hb hby d3_7) rfl rfl ?_
    refine o_ifP (P := x5 < (0 : Int32)) (pc1 := 35) (pc2 := 12) X hx XT.i0_lt_t XT.i0_lt_f (hb hby d3_9) (by decide) (by decide) rfl (fun c1 => ?_) (fun c1 => ?_)
    · rw [if_pos c1] at hK
      refine o_lloadN (pc' := 36) X hx (hb hby d3_35) rfl rfl ?_
      exact o_retL X hx hret hlk (hb hby d3_36) (by decide) (by decide) eT (hK)
    · rw [if_neg c1] at hK
      refine o_lloadN (pc' := 13) X hx (hb hby d3_12) rfl rfl ?_
      refine o_bipush (pc' := 15) (x := (8 : Int32)) X hx (hb hby d3_13) (by decide) rfl ?_
      refine o_lshl (pc' := 16)  X hx (hb hby d3_15) rfl rfl ?_
      refine o_aloadN (pc' := 17) X hx (hb hby d3_16) rfl rfl rfl ?_
      refine o_iloadN (pc' := 18) X hx (hb hby d3_17) rfl rfl ?_
      refine o_iload (pc' := 20) X hx (hb hby d3_18) rfl rfl ?_
      refine o_iadd (pc' := 21)  X hx (hb hby d3_20) rfl rfl ?_
      refine o_baload (pc' := 22)  X hx hZ eT Aa0 (hs.2 c1).1 (hb hby d3_21) rfl rfl ?_
      refine o_sipush (pc' := 25) (x := (255 : Int32)) X hx (hb hby d3_22) (by decide) rfl ?_
      refine o_iand (pc' := 26)  X hx (hb hby d3_25) rfl rfl ?_
      refine o_i2l (pc' := 27)  X hx (hb hby d3_26) rfl rfl ?_
      refine o_lor (pc' := 28)  X hx (hb hby d3_27) rfl rfl ?_
      refine o_lstoreN (pc' := 29) (l' := #[.val (.ref a0), .val (.int x1), z2, .val (.long ((own_lshl x3 (8 : Int32)) ||| (((own_get v0 (x1 + x5)) &&& (255 : Int32)).toInt64))), .second, .val (.int x5)]) X hx (hb hby d3_28) rfl rfl ?_
      refine o_iinc (pc' := 32) (y := (x5 + (-1 : Int32))) (l' := #[.val (.ref a0), .val (.int x1), z2, .val (.long ((own_lshl x3 (8 : Int32)) ||| (((own_get v0 (x1 + x5)) &&& (255 : Int32)).toInt64))), .second, .val (.int (x5 + (-1 : Int32)))]) X hx (hb hby d3_29) rfl rfl rfl rfl ?_
      refine o_goto (pc' := 7) X hx (hb hby d3_32) (by decide) (by decide) ?_
      exact ih a0 v0 x1 ((own_lshl x3 (8 : Int32)) ||| (((own_get v0 (x1 + x5)) &&& (255 : Int32)).toInt64)) (x5 + (-1 : Int32)) X eT Aa0 hz2 (hs.2 c1).2 hK

def f3_0 (v0 : List Int32) (p1 : Int32) (p2 : Int32) : Int64 := (f3_7 64 v0 p1 (0 : Int64) (p2 - (1 : Int32)))
def s3_0 (v0 : List Int32) (p1 : Int32) (p2 : Int32) : Prop := s3_7 64 v0 p1 (0 : Int64) (p2 - (1 : Int32))
set_option maxRecDepth 65536 in
set_option maxHeartbeats 40000000 in
theorem b3_0 (C : own_Cx p s m meth c Z ag prog_73_method_3_code 6 "com/example/fairtally/fairtally/ledger/csv/SipHash" (some .long) "littleEndian") {T : State} {h : Heap} (a0 : Addr) (v0 : List Int32) (p1 : Int32) (p2 : Int32) (X : Stand p l e R3 s m args below meth c T [] 0 0) (eT : T.heap = h) (Aa0 : own_AI Z h a0 .byte v0) (hs : s3_0 v0 p1 p2) (hK : K (some (.long (f3_0 v0 p1 p2))) h []) : own_Go p e below (own_Q s K cc3 ss3) T (mkF m 0 #[.val (.ref a0), .val (.int p1), .val (.int p2), .unset, .unset, .unset] []) := by
  obtain ⟨hx, hZ, hw, hby, hml, hown, hret, hlk, hnm⟩ := id C
  unfold f3_0 at hK
  unfold s3_0 at hs
  refine o_lconst (pc' := 1) (u := (0 : Int64)) X hx (hb hby d3_0) (by decide) rfl ?_
  refine o_lstoreN (pc' := 2) (l' := #[.val (.ref a0), .val (.int p1), .val (.int p2), .val (.long (0 : Int64)), .second, .unset]) X hx (hb hby d3_1) rfl rfl ?_
  refine o_iloadN (pc' := 3) X hx (hb hby d3_2) rfl rfl ?_
  refine o_iconst (pc' := 4) (x := (1 : Int32)) X hx (hb hby d3_3) (by decide) rfl ?_
  refine o_isub (pc' := 5)  X hx (hb hby d3_4) rfl rfl ?_
  refine o_istore (pc' := 7) (l' := #[.val (.ref a0), .val (.int p1), .val (.int p2), .val (.long (0 : Int64)), .second, .val (.int (p2 - (1 : Int32)))]) X hx (hb hby d3_5) rfl rfl ?_
  exact b3_7 C 64 a0 v0 p1 (0 : Int64) (p2 - (1 : Int32)) X eT Aa0 (One.val rfl) hs hK

end Body3
theorem pn_SipHash : plainName "com/example/fairtally/fairtally/ledger/csv/SipHash" = true := by first | (simp [plainName, overriddenIn]; done) | decide +kernel
theorem ef_3 (m : MethodId) (a0 : Addr) (p1 : Int32) (p2 : Int32) : entryFrame m #[(.ref a0), (.int p1), (.int p2)] 6 = mkF m 0 #[.val (.ref a0), .val (.int p1), .val (.int p2), .unset, .unset, .unset] [] := by first | (simp [entryFrame, mkF, argsToLocals, Value.category]; done) | rfl
set_option maxRecDepth 65536 in
set_option maxHeartbeats 40000000 in
theorem rm3 (l : Launch) (Z : State) (ag : Array Value) (hw : ∀ d ∈ tables_1, d.before ag Z = true) (ws : List Jvm.Cond) (a0 : Addr) (v0 : List Int32) (p1 : Int32) (p2 : Int32) (h0 : Heap) (Aa0 : own_AI Z h0 a0 .byte v0) (hs : s3_0 v0 p1 p2) :
    MetFree l (⟨"com/example/fairtally/fairtally/ledger/csv/SipHash", "littleEndian", "([BII)J"⟩ : MethodName) (head1 (Jvm.Cond.code (⟨"com/example/fairtally/fairtally/ledger/csv/SipHash", "littleEndian", "([BII)J"⟩ : MethodName) prog_73_method_3_code 6 (some .long) :: ws) R3) (fun a U => a = #[(.ref a0), (.int p1), (.int p2)] ∧ Z.Warmed39 U.vm ∧ U.heap = h0) (fun _ _ _ _ _ => True) (fun _ U o U' => ∃ v L, o = .returned v ∧ own_KP (some (.long (f3_0 v0 p1 p2))) h0 v U'.heap L ∧ FrameEnd U o U' L R3.cells R3.slots) := by
  refine MetFree.of_bodySF (plainFor_of_name pn_SipHash) hisR ?_
  intro p e s m args below meth c s₁ Bd hml0 hP hK
  obtain ⟨rfl, hZ, hh⟩ := hP
  have C : own_Cx p s m meth c Z ag prog_73_method_3_code 6 "com/example/fairtally/fairtally/ledger/csv/SipHash" (some .long) "littleEndian" := ⟨Bd.exec, hZ, hw, Bd.bytes, hml0, findClass_of_methodNamed Bd.named, Bd.returns, Bd.notSynchronized, (name_of_methodNamed Bd.named Bd.method).1⟩
  have X0 : Stand p l e R3 s m #[(.ref a0), (.int p1), (.int p2)] below meth c s₁ [] 0 0 := Stand.of_body Bd
  have e0 : s₁.heap = h0 := by rw [← hh, Bd.state]; rfl
  rw [ef_3]
  exact b3_0 (K := own_KP (some (.long (f3_0 v0 p1 p2))) h0) C a0 v0 p1 p2 X0 e0 Aa0 hs ⟨rfl, rfl, rfl⟩

theorem d1_0 : decode method_3_code 0 = .ok (.iload_n 0, 1) := by decide +kernel
theorem d1_1 : decode method_3_code 1 = .ok (.iload_n 1, 1) := by decide +kernel
theorem d1_2 : decode method_3_code 2 = .ok (.if_icmp .lt 15, 3) := by decide +kernel
theorem d1_5 : decode method_3_code 5 = .ok (.iload_n 0, 1) := by decide +kernel
theorem d1_6 : decode method_3_code 6 = .ok (.iload_n 1, 1) := by decide +kernel
theorem d1_7 : decode method_3_code 7 = .ok (.iload_n 2, 1) := by decide +kernel
theorem d1_8 : decode method_3_code 8 = .ok (.iadd, 1) := by decide +kernel
theorem d1_9 : decode method_3_code 9 = .ok (.if_icmp .ge 8, 3) := by decide +kernel
theorem d1_12 : decode method_3_code 12 = .ok (.iload_n 0, 1) := by decide +kernel
theorem d1_13 : decode method_3_code 13 = .ok (.iload_n 1, 1) := by decide +kernel
theorem d1_14 : decode method_3_code 14 = .ok (.isub, 1) := by decide +kernel
theorem d1_15 : decode method_3_code 15 = .ok (.i2b, 1) := by decide +kernel
theorem d1_16 : decode method_3_code 16 = .ok (.ireturn, 1) := by decide +kernel
theorem d1_17 : decode method_3_code 17 = .ok (.iload_n 0, 1) := by decide +kernel
theorem d1_18 : decode method_3_code 18 = .ok (.iconst 3, 1) := by decide +kernel
theorem d1_19 : decode method_3_code 19 = .ok (.ishr, 1) := by decide +kernel
theorem d1_20 : decode method_3_code 20 = .ok (.istore 11, 2) := by decide +kernel
theorem d1_22 : decode method_3_code 22 = .ok (.iload 11, 2) := by decide +kernel
theorem d1_24 : decode method_3_code 24 = .ok (.ifCond .ne 7, 3) := by decide +kernel
theorem d1_27 : decode method_3_code 27 = .ok (.lload_n 3, 1) := by decide +kernel
theorem d1_28 : decode method_3_code 28 = .ok (.goto 27, 3) := by decide +kernel
theorem d1_31 : decode method_3_code 31 = .ok (.iload 11, 2) := by decide +kernel
theorem d1_33 : decode method_3_code 33 = .ok (.iconst 1, 1) := by decide +kernel
theorem d1_34 : decode method_3_code 34 = .ok (.if_icmp .ne 8, 3) := by decide +kernel
theorem d1_37 : decode method_3_code 37 = .ok (.lload 5, 2) := by decide +kernel
theorem d1_39 : decode method_3_code 39 = .ok (.goto 16, 3) := by decide +kernel
theorem d1_42 : decode method_3_code 42 = .ok (.iload 11, 2) := by decide +kernel
theorem d1_44 : decode method_3_code 44 = .ok (.iconst 2, 1) := by decide +kernel
theorem d1_45 : decode method_3_code 45 = .ok (.if_icmp .ne 8, 3) := by decide +kernel
theorem d1_48 : decode method_3_code 48 = .ok (.lload 7, 2) := by decide +kernel
theorem d1_50 : decode method_3_code 50 = .ok (.goto 5, 3) := by decide +kernel
theorem d1_53 : decode method_3_code 53 = .ok (.lload 9, 2) := by decide +kernel
theorem d1_55 : decode method_3_code 55 = .ok (.lstore 12, 2) := by decide +kernel
theorem d1_57 : decode method_3_code 57 = .ok (.lload 12, 2) := by decide +kernel
theorem d1_59 : decode method_3_code 59 = .ok (.iload_n 0, 1) := by decide +kernel
theorem d1_60 : decode method_3_code 60 = .ok (.bipush 7, 2) := by decide +kernel
theorem d1_62 : decode method_3_code 62 = .ok (.iand, 1) := by decide +kernel
theorem d1_63 : decode method_3_code 63 = .ok (.iconst 3, 1) := by decide +kernel
theorem d1_64 : decode method_3_code 64 = .ok (.ishl, 1) := by decide +kernel
theorem d1_65 : decode method_3_code 65 = .ok (.lushr, 1) := by decide +kernel
theorem d1_66 : decode method_3_code 66 = .ok (.l2i, 1) := by decide +kernel
theorem d1_67 : decode method_3_code 67 = .ok (.i2b, 1) := by decide +kernel
theorem d1_68 : decode method_3_code 68 = .ok (.ireturn, 1) := by decide +kernel
section Body1
variable {p : Program} {l : Launch} {e : Env} {s : State} {m : MethodId} {args : Array Value} {below : List Frame} {meth : Method} {c : Code} {Z : State} {ag : Array Value} {K : Option Value → Heap → List Loc → Prop}
abbrev R1 : Room := { frames := 0, cells := 0, slots := 0, locals := 0 }
abbrev cc1 : Nat := 0
abbrev ss1 : Nat := 0
def f1_55 (x0 : Int32) (t0 : Int64) : Int32 := (own_i2b (own_i2b ((own_lushr t0 (own_shl (x0 &&& (7 : Int32)) (3 : Int32))).toInt32)))
set_option maxRecDepth 65536 in
set_option maxHeartbeats 40000000 in
theorem b1_55 (C : own_Cx p s m meth c Z ag method_3_code 14 "com/example/fairtally/fairtally/ledger/csv/SipHashOfPinLaw" (some .byte) "cell") {T : State} {h : Heap} {z3 : Int64} {z5 : Int64} {z7 : Int64} {z9 : Int64} {z1 : Slot} {z2 : Slot} {z11 : Slot} (x0 : Int32) (t0 : Int64) (X : Stand p l e R1 s m args below meth c T [] 0 0) (eT : T.heap = h) (hz1 : One z1) (hz2 : One z2) (hz11 : One z11) (hK : K (some (.int (f1_55 x0 t0))) h []) : own_Go p e below (own_Q s K cc1 ss1) T (mkF m 55 #[.val (.int x0), z1, z2, .val (.long z3), .second, .val (.long z5), .second, .val (.long z7), .second, .val (.long z9), .second, z11, .unset, .unset] [(.long t0)]) := by
  obtain ⟨hx, hZ, hw, hby, hml, hown, hret, hlk, hnm⟩ := id C
  unfold f1_55 at hK
  refine o_lstore (pc' := 57) (l' := #[.val (.int x0), z1, z2, .val (.long z3), .second, .val (.long z5), .second, .val (.long z7), .second, .val (.long z9), .second, z11, .val (.long t0), .second]) X hx (hb hby d1_55) rfl rfl ?_
  refine o_lload (pc' := 59) X hx (hb hby d1_57) rfl rfl ?_
  refine o_iloadN (pc' := 60) X hx (hb hby d1_59) rfl rfl ?_
  refine o_bipush (pc' := 62) (x := (7 : Int32)) X hx (hb hby d1_60) (by decide) rfl ?_
  refine o_iand (pc' := 63)  X hx (hb hby d1_62) rfl rfl ?_
  refine o_iconst (pc' := 64) (x := (3 : Int32)) X hx (hb hby d1_63) (by decide) rfl ?_
  refine o_ishl (pc' := 65)  X hx (hb hby d1_64) rfl rfl ?_
  refine o_lushr (pc' := 66)  X hx (hb hby d1_65) rfl rfl ?_
  refine o_l2i (pc' := 67)  X hx (hb hby d1_66) rfl rfl ?_
  refine o_i2b (pc' := 68)  X hx (hb hby d1_67) rfl rfl ?_
  exact o_retN X hx (t := .byte) hret (by simp) hlk (hb hby d1_68) (by decide) (by decide) eT (hK)

def f1_17 (x0 : Int32) (x3 : Int64) (x5 : Int64) (x7 : Int64) (x9 : Int64) : Int32 := (if (own_shr x0 (3 : Int32)) = (0 : Int32) then (f1_55 x0 x3) else (if (own_shr x0 (3 : Int32)) = (1 : Int32) then (f1_55 x0 x5) else (if (own_shr x0 (3 : Int32)) = (2 : Int32) then (f1_55 x0 x7) else (f1_55 x0 x9))))
set_option maxRecDepth 65536 in
set_option maxHeartbeats 40000000 in
theorem b1_17 (C : own_Cx p s m meth c Z ag method_3_code 14 "com/example/fairtally/fairtally/ledger/csv/SipHashOfPinLaw" (some .byte) "cell") {T : State} {h : Heap} {z1 : Slot} {z2 : Slot} {z11 : Slot} (x0 : Int32) (x3 : Int64) (x5 : Int64) (x7 : Int64) (x9 : Int64) (X : Stand p l e R1 s m args below meth c T [] 0 0) (eT : T.heap = h) (hz1 : One z1) (hz2 : One z2) (hz11 : One z11) (hK : K (some (.int (f1_17 x0 x3 x5 x7 x9))) h []) : own_Go p e below (own_Q s K cc1 ss1) T (mkF m 17 #[.val (.int x0), z1, z2, .val (.long x3), .second, .val (.long x5), .second, .val (.long x7), .second, .val (.long x9), .second, z11, .unset, .unset] []) := by
  obtain ⟨hx, hZ, hw, hby, hml, hown, hret, hlk, hnm⟩ := id C
  unfold f1_17 at hK
  refine o_iloadN (pc' := 18) X hx (hb hby d1_17) rfl rfl ?_
  refine o_iconst (pc' := 19) (x := (3 : Int32)) X hx (hb hby d1_18) (by decide) rfl ?_
  refine o_ishr (pc' := 20)  X hx (hb hby d1_19) rfl rfl ?_
  refine o_istoreS (pc' := 22) (l' := #[.val (.int x0), z1, z2, .val (.long x3), .second, .val (.long x5), .second, .val (.long x7), .second, .val (.long x9), .second, .val (.int (own_shr x0 (3 : Int32))), .unset, .unset]) X hx (hb hby d1_20) rfl hz11 rfl rfl ?_
  refine o_iload (pc' := 24) X hx (hb hby d1_22) rfl rfl ?_
  refine o_ifN (P := (own_shr x0 (3 : Int32)) = (0 : Int32)) (pc1 := 31) (pc2 := 27) X hx XT.i0_ne_f XT.i0_ne_t (hb hby d1_24) (by decide) (by decide) rfl (fun c3 => ?_) (fun c3 => ?_)
  · rw [if_neg c3] at hK
    refine o_iload (pc' := 33) X hx (hb hby d1_31) rfl rfl ?_
    refine o_iconst (pc' := 34) (x := (1 : Int32)) X hx (hb hby d1_33) (by decide) rfl ?_
    refine o_icN (P := (own_shr x0 (3 : Int32)) = (1 : Int32)) (pc1 := 42) (pc2 := 37) X hx XT.ii_ne_f XT.ii_ne_t (hb hby d1_34) (by decide) (by decide) rfl (fun c4 => ?_) (fun c4 => ?_)
    · rw [if_neg c4] at hK
      refine o_iload (pc' := 44) X hx (hb hby d1_42) rfl rfl ?_
      refine o_iconst (pc' := 45) (x := (2 : Int32)) X hx (hb hby d1_44) (by decide) rfl ?_
      refine o_icN (P := (own_shr x0 (3 : Int32)) = (2 : Int32)) (pc1 := 53) (pc2 := 48) X hx XT.ii_ne_f XT.ii_ne_t (hb hby d1_45) (by decide) (by decide) rfl (fun c5 => ?_) (fun c5 => ?_)
      · rw [if_neg c5] at hK
        refine o_lload (pc' := 55) X hx (hb hby d1_53) rfl rfl ?_
        exact b1_55 C x0 x9 X eT hz1 hz2 (One.val rfl) hK
      · rw [if_pos c5] at hK
        refine o_lload (pc' := 50) X hx (hb hby d1_48) rfl rfl ?_
        refine o_goto (pc' := 55) X hx (hb hby d1_50) (by decide) (by decide) ?_
        exact b1_55 C x0 x7 X eT hz1 hz2 (One.val rfl) hK
    · rw [if_pos c4] at hK
      refine o_lload (pc' := 39) X hx (hb hby d1_37) rfl rfl ?_
      refine o_goto (pc' := 55) X hx (hb hby d1_39) (by decide) (by decide) ?_
      exact b1_55 C x0 x5 X eT hz1 hz2 (One.val rfl) hK
  · rw [if_pos c3] at hK
    refine o_lloadN (pc' := 28) X hx (hb hby d1_27) rfl rfl ?_
    refine o_goto (pc' := 55) X hx (hb hby d1_28) (by decide) (by decide) ?_
    exact b1_55 C x0 x3 X eT hz1 hz2 (One.val rfl) hK

def f1_0 (p0 : Int32) (p1 : Int32) (p2 : Int32) (q3 : Int64) (q4 : Int64) (q5 : Int64) (q6 : Int64) : Int32 := (if p0 < p1 then (f1_17 p0 q3 q4 q5 q6) else (if p0 < (p1 + p2) then (own_i2b (own_i2b (p0 - p1))) else (f1_17 p0 q3 q4 q5 q6)))
set_option maxRecDepth 65536 in
set_option maxHeartbeats 40000000 in
theorem b1_0 (C : own_Cx p s m meth c Z ag method_3_code 14 "com/example/fairtally/fairtally/ledger/csv/SipHashOfPinLaw" (some .byte) "cell") {T : State} {h : Heap} (p0 : Int32) (p1 : Int32) (p2 : Int32) (q3 : Int64) (q4 : Int64) (q5 : Int64) (q6 : Int64) (X : Stand p l e R1 s m args below meth c T [] 0 0) (eT : T.heap = h) (hK : K (some (.int (f1_0 p0 p1 p2 q3 q4 q5 q6))) h []) : own_Go p e below (own_Q s K cc1 ss1) T (mkF m 0 #[.val (.int p0), .val (.int p1), .val (.int p2), .val (.long q3), .second, .val (.long q4), .second, .val (.long q5), .second, .val (.long q6), .second, .unset, .unset, .unset] []) := by
  obtain ⟨hx, hZ, hw, hby, hml, hown, hret, hlk, hnm⟩ := id C
  unfold f1_0 at hK
  refine o_iloadN (pc' := 1) X hx (hb hby d1_0) rfl rfl ?_
  refine o_iloadN (pc' := 2) X hx (hb hby d1_1) rfl rfl ?_
  refine o_icP (P := p0 < p1) (pc1 := 17) (pc2 := 5) X hx XT.ii_lt_t XT.ii_lt_f (hb hby d1_2) (by decide) (by decide) rfl (fun c2 => ?_) (fun c2 => ?_)
  · rw [if_pos c2] at hK
    exact b1_17 C p0 q3 q4 q5 q6 X eT (One.val rfl) (One.val rfl) One.u hK
  · rw [if_neg c2] at hK
    refine o_iloadN (pc' := 6) X hx (hb hby d1_5) rfl rfl ?_
    refine o_iloadN (pc' := 7) X hx (hb hby d1_6) rfl rfl ?_
    refine o_iloadN (pc' := 8) X hx (hb hby d1_7) rfl rfl ?_
    refine o_iadd (pc' := 9)  X hx (hb hby d1_8) rfl rfl ?_
    refine o_icN (P := p0 < (p1 + p2)) (pc1 := 17) (pc2 := 12) X hx XT.ii_ge_f XT.ii_ge_t (hb hby d1_9) (by decide) (by decide) rfl (fun c6 => ?_) (fun c6 => ?_)
    · rw [if_neg c6] at hK
      exact b1_17 C p0 q3 q4 q5 q6 X eT (One.val rfl) (One.val rfl) One.u hK
    · rw [if_pos c6] at hK
      refine o_iloadN (pc' := 13) X hx (hb hby d1_12) rfl rfl ?_
      refine o_iloadN (pc' := 14) X hx (hb hby d1_13) rfl rfl ?_
      refine o_isub (pc' := 15)  X hx (hb hby d1_14) rfl rfl ?_
      refine o_i2b (pc' := 16)  X hx (hb hby d1_15) rfl rfl ?_
      exact o_retN X hx (t := .byte) hret (by simp) hlk (hb hby d1_16) (by decide) (by decide) eT (hK)

end Body1
theorem pn_SipHashOfPinLaw : plainName "com/example/fairtally/fairtally/ledger/csv/SipHashOfPinLaw" = true := by first | (simp [plainName, overriddenIn]; done) | decide +kernel
theorem ef_1 (m : MethodId) (p0 : Int32) (p1 : Int32) (p2 : Int32) (q3 : Int64) (q4 : Int64) (q5 : Int64) (q6 : Int64) : entryFrame m #[(.int p0), (.int p1), (.int p2), (.long q3), (.long q4), (.long q5), (.long q6)] 14 = mkF m 0 #[.val (.int p0), .val (.int p1), .val (.int p2), .val (.long q3), .second, .val (.long q4), .second, .val (.long q5), .second, .val (.long q6), .second, .unset, .unset, .unset] [] := by first | (simp [entryFrame, mkF, argsToLocals, Value.category]; done) | rfl
set_option maxRecDepth 65536 in
set_option maxHeartbeats 40000000 in
theorem rm1 (l : Launch) (Z : State) (ag : Array Value) (hw : ∀ d ∈ tables_1, d.before ag Z = true) (ws : List Jvm.Cond) (p0 : Int32) (p1 : Int32) (p2 : Int32) (q3 : Int64) (q4 : Int64) (q5 : Int64) (q6 : Int64) (h0 : Heap) :
    MetFree l (⟨"com/example/fairtally/fairtally/ledger/csv/SipHashOfPinLaw", "cell", "(IIIJJJJ)B"⟩ : MethodName) (head1 (Jvm.Cond.code (⟨"com/example/fairtally/fairtally/ledger/csv/SipHashOfPinLaw", "cell", "(IIIJJJJ)B"⟩ : MethodName) method_3_code 14 (some .byte) :: ws) R1) (fun a U => a = #[(.int p0), (.int p1), (.int p2), (.long q3), (.long q4), (.long q5), (.long q6)] ∧ Z.Warmed39 U.vm ∧ U.heap = h0) (fun _ _ _ _ _ => True) (fun _ U o U' => ∃ v L, o = .returned v ∧ own_KP (some (.int (f1_0 p0 p1 p2 q3 q4 q5 q6))) h0 v U'.heap L ∧ FrameEnd U o U' L R1.cells R1.slots) := by
  refine MetFree.of_bodySF (plainFor_of_name pn_SipHashOfPinLaw) hisR ?_
  intro p e s m args below meth c s₁ Bd hml0 hP hK
  obtain ⟨rfl, hZ, hh⟩ := hP
  have C : own_Cx p s m meth c Z ag method_3_code 14 "com/example/fairtally/fairtally/ledger/csv/SipHashOfPinLaw" (some .byte) "cell" := ⟨Bd.exec, hZ, hw, Bd.bytes, hml0, findClass_of_methodNamed Bd.named, Bd.returns, Bd.notSynchronized, (name_of_methodNamed Bd.named Bd.method).1⟩
  have X0 : Stand p l e R1 s m #[(.int p0), (.int p1), (.int p2), (.long q3), (.long q4), (.long q5), (.long q6)] below meth c s₁ [] 0 0 := Stand.of_body Bd
  have e0 : s₁.heap = h0 := by rw [← hh, Bd.state]; rfl
  rw [ef_1]
  exact b1_0 (K := own_KP (some (.int (f1_0 p0 p1 p2 q3 q4 q5 q6))) h0) C p0 p1 p2 q3 q4 q5 q6 X0 e0 ⟨rfl, rfl, rfl⟩

theorem d2_0 : decode prog_73_method_2_code 0 = .ok (.lload_n 0, 1) := by decide +kernel
theorem d2_1 : decode prog_73_method_2_code 1 = .ok (.ldc2_w 7, 3) := by decide +kernel
theorem d2_4 : decode prog_73_method_2_code 4 = .ok (.lxor, 1) := by decide +kernel
theorem d2_5 : decode prog_73_method_2_code 5 = .ok (.lstore 7, 2) := by decide +kernel
theorem d2_7 : decode prog_73_method_2_code 7 = .ok (.lload_n 2, 1) := by decide +kernel
theorem d2_8 : decode prog_73_method_2_code 8 = .ok (.ldc2_w 9, 3) := by decide +kernel
theorem d2_11 : decode prog_73_method_2_code 11 = .ok (.lxor, 1) := by decide +kernel
theorem d2_12 : decode prog_73_method_2_code 12 = .ok (.lstore 9, 2) := by decide +kernel
theorem d2_14 : decode prog_73_method_2_code 14 = .ok (.lload_n 0, 1) := by decide +kernel
theorem d2_15 : decode prog_73_method_2_code 15 = .ok (.ldc2_w 11, 3) := by decide +kernel
theorem d2_18 : decode prog_73_method_2_code 18 = .ok (.lxor, 1) := by decide +kernel
theorem d2_19 : decode prog_73_method_2_code 19 = .ok (.lstore 11, 2) := by decide +kernel
theorem d2_21 : decode prog_73_method_2_code 21 = .ok (.lload_n 2, 1) := by decide +kernel
theorem d2_22 : decode prog_73_method_2_code 22 = .ok (.ldc2_w 13, 3) := by decide +kernel
theorem d2_25 : decode prog_73_method_2_code 25 = .ok (.lxor, 1) := by decide +kernel
theorem d2_26 : decode prog_73_method_2_code 26 = .ok (.lstore 13, 2) := by decide +kernel
theorem d2_28 : decode prog_73_method_2_code 28 = .ok (.iload 6, 2) := by decide +kernel
theorem d2_30 : decode prog_73_method_2_code 30 = .ok (.iload 5, 2) := by decide +kernel
theorem d2_32 : decode prog_73_method_2_code 32 = .ok (.isub, 1) := by decide +kernel
theorem d2_33 : decode prog_73_method_2_code 33 = .ok (.istore 15, 2) := by decide +kernel
theorem d2_35 : decode prog_73_method_2_code 35 = .ok (.iload 15, 2) := by decide +kernel
theorem d2_37 : decode prog_73_method_2_code 37 = .ok (.bipush 8, 2) := by decide +kernel
theorem d2_39 : decode prog_73_method_2_code 39 = .ok (.idiv, 1) := by decide +kernel
theorem d2_40 : decode prog_73_method_2_code 40 = .ok (.iconst 1, 1) := by decide +kernel
theorem d2_41 : decode prog_73_method_2_code 41 = .ok (.iadd, 1) := by decide +kernel
theorem d2_42 : decode prog_73_method_2_code 42 = .ok (.istore 16, 2) := by decide +kernel
theorem d2_44 : decode prog_73_method_2_code 44 = .ok (.iconst 0, 1) := by decide +kernel
theorem d2_45 : decode prog_73_method_2_code 45 = .ok (.istore 17, 2) := by decide +kernel
theorem d2_47 : decode prog_73_method_2_code 47 = .ok (.iload 17, 2) := by decide +kernel
theorem d2_49 : decode prog_73_method_2_code 49 = .ok (.iload 16, 2) := by decide +kernel
theorem d2_51 : decode prog_73_method_2_code 51 = .ok (.if_icmp .gt 244, 3) := by decide +kernel
theorem d2_54 : decode prog_73_method_2_code 54 = .ok (.iload 17, 2) := by decide +kernel
theorem d2_56 : decode prog_73_method_2_code 56 = .ok (.iload 16, 2) := by decide +kernel
theorem d2_58 : decode prog_73_method_2_code 58 = .ok (.if_icmp .ne 7, 3) := by decide +kernel
theorem d2_61 : decode prog_73_method_2_code 61 = .ok (.iconst 1, 1) := by decide +kernel
theorem d2_62 : decode prog_73_method_2_code 62 = .ok (.goto 4, 3) := by decide +kernel
theorem d2_65 : decode prog_73_method_2_code 65 = .ok (.iconst 0, 1) := by decide +kernel
theorem d2_66 : decode prog_73_method_2_code 66 = .ok (.istore 18, 2) := by decide +kernel
theorem d2_68 : decode prog_73_method_2_code 68 = .ok (.iload 5, 2) := by decide +kernel
theorem d2_70 : decode prog_73_method_2_code 70 = .ok (.iload 17, 2) := by decide +kernel
theorem d2_72 : decode prog_73_method_2_code 72 = .ok (.bipush 8, 2) := by decide +kernel
theorem d2_74 : decode prog_73_method_2_code 74 = .ok (.imul, 1) := by decide +kernel
theorem d2_75 : decode prog_73_method_2_code 75 = .ok (.iadd, 1) := by decide +kernel
theorem d2_76 : decode prog_73_method_2_code 76 = .ok (.istore 19, 2) := by decide +kernel
theorem d2_78 : decode prog_73_method_2_code 78 = .ok (.lconst 0, 1) := by decide +kernel
theorem d2_79 : decode prog_73_method_2_code 79 = .ok (.lstore 20, 2) := by decide +kernel
theorem d2_81 : decode prog_73_method_2_code 81 = .ok (.iload 18, 2) := by decide +kernel
theorem d2_83 : decode prog_73_method_2_code 83 = .ok (.ifCond .eq 14, 3) := by decide +kernel
theorem d2_86 : decode prog_73_method_2_code 86 = .ok (.lload 11, 2) := by decide +kernel
theorem d2_88 : decode prog_73_method_2_code 88 = .ok (.ldc2_w 15, 3) := by decide +kernel
theorem d2_91 : decode prog_73_method_2_code 91 = .ok (.lxor, 1) := by decide +kernel
theorem d2_92 : decode prog_73_method_2_code 92 = .ok (.lstore 11, 2) := by decide +kernel
theorem d2_94 : decode prog_73_method_2_code 94 = .ok (.goto 47, 3) := by decide +kernel
theorem d2_97 : decode prog_73_method_2_code 97 = .ok (.iload 17, 2) := by decide +kernel
theorem d2_99 : decode prog_73_method_2_code 99 = .ok (.iload 16, 2) := by decide +kernel
theorem d2_101 : decode prog_73_method_2_code 101 = .ok (.iconst 1, 1) := by decide +kernel
theorem d2_102 : decode prog_73_method_2_code 102 = .ok (.isub, 1) := by decide +kernel
theorem d2_103 : decode prog_73_method_2_code 103 = .ok (.if_icmp .ge 17, 3) := by decide +kernel
theorem d2_106 : decode prog_73_method_2_code 106 = .ok (.aload 4, 2) := by decide +kernel
theorem d2_108 : decode prog_73_method_2_code 108 = .ok (.iload 19, 2) := by decide +kernel
theorem d2_110 : decode prog_73_method_2_code 110 = .ok (.bipush 8, 2) := by decide +kernel
theorem d2_112 : decode prog_73_method_2_code 112 = .ok (.invokestatic 17, 3) := by decide +kernel
theorem d2_115 : decode prog_73_method_2_code 115 = .ok (.lstore 20, 2) := by decide +kernel
theorem d2_117 : decode prog_73_method_2_code 117 = .ok (.goto 24, 3) := by decide +kernel
theorem d2_120 : decode prog_73_method_2_code 120 = .ok (.iload 15, 2) := by decide +kernel
theorem d2_122 : decode prog_73_method_2_code 122 = .ok (.i2l, 1) := by decide +kernel
theorem d2_123 : decode prog_73_method_2_code 123 = .ok (.bipush 56, 2) := by decide +kernel
theorem d2_125 : decode prog_73_method_2_code 125 = .ok (.lshl, 1) := by decide +kernel
theorem d2_126 : decode prog_73_method_2_code 126 = .ok (.aload 4, 2) := by decide +kernel
theorem d2_128 : decode prog_73_method_2_code 128 = .ok (.iload 19, 2) := by decide +kernel
theorem d2_130 : decode prog_73_method_2_code 130 = .ok (.iload 15, 2) := by decide +kernel
theorem d2_132 : decode prog_73_method_2_code 132 = .ok (.bipush 8, 2) := by decide +kernel
theorem d2_134 : decode prog_73_method_2_code 134 = .ok (.irem, 1) := by decide +kernel
theorem d2_135 : decode prog_73_method_2_code 135 = .ok (.invokestatic 17, 3) := by decide +kernel
theorem d2_138 : decode prog_73_method_2_code 138 = .ok (.lor, 1) := by decide +kernel
theorem d2_139 : decode prog_73_method_2_code 139 = .ok (.lstore 20, 2) := by decide +kernel
theorem d2_141 : decode prog_73_method_2_code 141 = .ok (.lload 13, 2) := by decide +kernel
theorem d2_143 : decode prog_73_method_2_code 143 = .ok (.lload 20, 2) := by decide +kernel
theorem d2_145 : decode prog_73_method_2_code 145 = .ok (.lxor, 1) := by decide +kernel
theorem d2_146 : decode prog_73_method_2_code 146 = .ok (.lstore 13, 2) := by decide +kernel
theorem d2_148 : decode prog_73_method_2_code 148 = .ok (.iconst 0, 1) := by decide +kernel
theorem d2_149 : decode prog_73_method_2_code 149 = .ok (.istore 22, 2) := by decide +kernel
theorem d2_151 : decode prog_73_method_2_code 151 = .ok (.iload 22, 2) := by decide +kernel
theorem d2_153 : decode prog_73_method_2_code 153 = .ok (.iload 18, 2) := by decide +kernel
theorem d2_155 : decode prog_73_method_2_code 155 = .ok (.ifCond .eq 7, 3) := by decide +kernel
theorem d2_158 : decode prog_73_method_2_code 158 = .ok (.iconst 4, 1) := by decide +kernel
theorem d2_159 : decode prog_73_method_2_code 159 = .ok (.goto 4, 3) := by decide +kernel
theorem d2_162 : decode prog_73_method_2_code 162 = .ok (.iconst 2, 1) := by decide +kernel
theorem d2_163 : decode prog_73_method_2_code 163 = .ok (.if_icmp .ge 119, 3) := by decide +kernel
theorem d2_166 : decode prog_73_method_2_code 166 = .ok (.lload 7, 2) := by decide +kernel
theorem d2_168 : decode prog_73_method_2_code 168 = .ok (.lload 9, 2) := by decide +kernel
theorem d2_170 : decode prog_73_method_2_code 170 = .ok (.ladd, 1) := by decide +kernel
theorem d2_171 : decode prog_73_method_2_code 171 = .ok (.lstore 7, 2) := by decide +kernel
theorem d2_173 : decode prog_73_method_2_code 173 = .ok (.lload 9, 2) := by decide +kernel
theorem d2_175 : decode prog_73_method_2_code 175 = .ok (.bipush 13, 2) := by decide +kernel
theorem d2_177 : decode prog_73_method_2_code 177 = .ok (.invokestatic 23, 3) := by decide +kernel
theorem d2_180 : decode prog_73_method_2_code 180 = .ok (.lstore 9, 2) := by decide +kernel
theorem d2_182 : decode prog_73_method_2_code 182 = .ok (.lload 9, 2) := by decide +kernel
theorem d2_184 : decode prog_73_method_2_code 184 = .ok (.lload 7, 2) := by decide +kernel
theorem d2_186 : decode prog_73_method_2_code 186 = .ok (.lxor, 1) := by decide +kernel
theorem d2_187 : decode prog_73_method_2_code 187 = .ok (.lstore 9, 2) := by decide +kernel
theorem d2_189 : decode prog_73_method_2_code 189 = .ok (.lload 7, 2) := by decide +kernel
theorem d2_191 : decode prog_73_method_2_code 191 = .ok (.bipush 32, 2) := by decide +kernel
theorem d2_193 : decode prog_73_method_2_code 193 = .ok (.invokestatic 23, 3) := by decide +kernel
theorem d2_196 : decode prog_73_method_2_code 196 = .ok (.lstore 7, 2) := by decide +kernel
theorem d2_198 : decode prog_73_method_2_code 198 = .ok (.lload 11, 2) := by decide +kernel
theorem d2_200 : decode prog_73_method_2_code 200 = .ok (.lload 13, 2) := by decide +kernel
theorem d2_202 : decode prog_73_method_2_code 202 = .ok (.ladd, 1) := by decide +kernel
theorem d2_203 : decode prog_73_method_2_code 203 = .ok (.lstore 11, 2) := by decide +kernel
theorem d2_205 : decode prog_73_method_2_code 205 = .ok (.lload 13, 2) := by decide +kernel
theorem d2_207 : decode prog_73_method_2_code 207 = .ok (.bipush 16, 2) := by decide +kernel
theorem d2_209 : decode prog_73_method_2_code 209 = .ok (.invokestatic 23, 3) := by decide +kernel
theorem d2_212 : decode prog_73_method_2_code 212 = .ok (.lstore 13, 2) := by decide +kernel
theorem d2_214 : decode prog_73_method_2_code 214 = .ok (.lload 13, 2) := by decide +kernel
theorem d2_216 : decode prog_73_method_2_code 216 = .ok (.lload 11, 2) := by decide +kernel
theorem d2_218 : decode prog_73_method_2_code 218 = .ok (.lxor, 1) := by decide +kernel
theorem d2_219 : decode prog_73_method_2_code 219 = .ok (.lstore 13, 2) := by decide +kernel
theorem d2_221 : decode prog_73_method_2_code 221 = .ok (.lload 7, 2) := by decide +kernel
theorem d2_223 : decode prog_73_method_2_code 223 = .ok (.lload 13, 2) := by decide +kernel
theorem d2_225 : decode prog_73_method_2_code 225 = .ok (.ladd, 1) := by decide +kernel
theorem d2_226 : decode prog_73_method_2_code 226 = .ok (.lstore 7, 2) := by decide +kernel
theorem d2_228 : decode prog_73_method_2_code 228 = .ok (.lload 13, 2) := by decide +kernel
theorem d2_230 : decode prog_73_method_2_code 230 = .ok (.bipush 21, 2) := by decide +kernel
theorem d2_232 : decode prog_73_method_2_code 232 = .ok (.invokestatic 23, 3) := by decide +kernel
theorem d2_235 : decode prog_73_method_2_code 235 = .ok (.lstore 13, 2) := by decide +kernel
theorem d2_237 : decode prog_73_method_2_code 237 = .ok (.lload 13, 2) := by decide +kernel
theorem d2_239 : decode prog_73_method_2_code 239 = .ok (.lload 7, 2) := by decide +kernel
theorem d2_241 : decode prog_73_method_2_code 241 = .ok (.lxor, 1) := by decide +kernel
theorem d2_242 : decode prog_73_method_2_code 242 = .ok (.lstore 13, 2) := by decide +kernel
theorem d2_244 : decode prog_73_method_2_code 244 = .ok (.lload 11, 2) := by decide +kernel
theorem d2_246 : decode prog_73_method_2_code 246 = .ok (.lload 9, 2) := by decide +kernel
theorem d2_248 : decode prog_73_method_2_code 248 = .ok (.ladd, 1) := by decide +kernel
theorem d2_249 : decode prog_73_method_2_code 249 = .ok (.lstore 11, 2) := by decide +kernel
theorem d2_251 : decode prog_73_method_2_code 251 = .ok (.lload 9, 2) := by decide +kernel
theorem d2_253 : decode prog_73_method_2_code 253 = .ok (.bipush 17, 2) := by decide +kernel
theorem d2_255 : decode prog_73_method_2_code 255 = .ok (.invokestatic 23, 3) := by decide +kernel
theorem d2_258 : decode prog_73_method_2_code 258 = .ok (.lstore 9, 2) := by decide +kernel
theorem d2_260 : decode prog_73_method_2_code 260 = .ok (.lload 9, 2) := by decide +kernel
theorem d2_262 : decode prog_73_method_2_code 262 = .ok (.lload 11, 2) := by decide +kernel
theorem d2_264 : decode prog_73_method_2_code 264 = .ok (.lxor, 1) := by decide +kernel
theorem d2_265 : decode prog_73_method_2_code 265 = .ok (.lstore 9, 2) := by decide +kernel
theorem d2_267 : decode prog_73_method_2_code 267 = .ok (.lload 11, 2) := by decide +kernel
theorem d2_269 : decode prog_73_method_2_code 269 = .ok (.bipush 32, 2) := by decide +kernel
theorem d2_271 : decode prog_73_method_2_code 271 = .ok (.invokestatic 23, 3) := by decide +kernel
theorem d2_274 : decode prog_73_method_2_code 274 = .ok (.lstore 11, 2) := by decide +kernel
theorem d2_276 : decode prog_73_method_2_code 276 = .ok (.iinc 22 1, 3) := by decide +kernel
theorem d2_279 : decode prog_73_method_2_code 279 = .ok (.goto (-128), 3) := by decide +kernel
theorem d2_282 : decode prog_73_method_2_code 282 = .ok (.lload 7, 2) := by decide +kernel
theorem d2_284 : decode prog_73_method_2_code 284 = .ok (.lload 20, 2) := by decide +kernel
theorem d2_286 : decode prog_73_method_2_code 286 = .ok (.lxor, 1) := by decide +kernel
theorem d2_287 : decode prog_73_method_2_code 287 = .ok (.lstore 7, 2) := by decide +kernel
theorem d2_289 : decode prog_73_method_2_code 289 = .ok (.iinc 17 1, 3) := by decide +kernel
theorem d2_292 : decode prog_73_method_2_code 292 = .ok (.goto (-245), 3) := by decide +kernel
theorem d2_295 : decode prog_73_method_2_code 295 = .ok (.lload 7, 2) := by decide +kernel
theorem d2_297 : decode prog_73_method_2_code 297 = .ok (.lload 9, 2) := by decide +kernel
theorem d2_299 : decode prog_73_method_2_code 299 = .ok (.lxor, 1) := by decide +kernel
theorem d2_300 : decode prog_73_method_2_code 300 = .ok (.lload 11, 2) := by decide +kernel
theorem d2_302 : decode prog_73_method_2_code 302 = .ok (.lxor, 1) := by decide +kernel
theorem d2_303 : decode prog_73_method_2_code 303 = .ok (.lload 13, 2) := by decide +kernel
theorem d2_305 : decode prog_73_method_2_code 305 = .ok (.lxor, 1) := by decide +kernel
theorem d2_306 : decode prog_73_method_2_code 306 = .ok (.lreturn, 1) := by decide +kernel
section Body2
variable {p : Program} {l : Launch} {e : Env} {s : State} {m : MethodId} {args : Array Value} {below : List Frame} {meth : Method} {c : Code} {Z : State} {ag : Array Value} {K : Option Value → Heap → List Loc → Prop}
abbrev R2 : Room := { frames := 1, cells := 0, slots := 0, locals := 19 }
abbrev cc2 : Nat := 0
abbrev ss2 : Nat := 0
def f2_47_3 (r2_151 : List Int32 → Int32 → Int64 → Int64 → Int64 → Int64 → Int32 → Int32 → Int32 → Int32 → Int64 → Int32 → Int64) (v0 : List Int32) (x5 : Int32) (x7 : Int64) (x9 : Int64) (x11 : Int64) (x13 : Int64) (x15 : Int32) (x16 : Int32) (x17 : Int32) : Int64 := (if x16 < x17 then (((x7 ^^^ x9) ^^^ x11) ^^^ x13) else (if x17 = x16 then (r2_151 v0 x5 x7 x9 (x11 ^^^ (255 : Int64)) (x13 ^^^ (0 : Int64)) x15 x16 x17 (1 : Int32) (0 : Int64) (0 : Int32)) else (if x17 < (x16 - (1 : Int32)) then (r2_151 v0 x5 x7 x9 x11 (x13 ^^^ (f3_0 v0 (x5 + (x17 * (8 : Int32))) (8 : Int32))) x15 x16 x17 (0 : Int32) (f3_0 v0 (x5 + (x17 * (8 : Int32))) (8 : Int32)) (0 : Int32)) else (r2_151 v0 x5 x7 x9 x11 (x13 ^^^ ((own_lshl x15.toInt64 (56 : Int32)) ||| (f3_0 v0 (x5 + (x17 * (8 : Int32))) (own_rem x15 (8 : Int32))))) x15 x16 x17 (0 : Int32) ((own_lshl x15.toInt64 (56 : Int32)) ||| (f3_0 v0 (x5 + (x17 * (8 : Int32))) (own_rem x15 (8 : Int32)))) (0 : Int32)))))
def s2_47_3 (q2_151 : List Int32 → Int32 → Int64 → Int64 → Int64 → Int64 → Int32 → Int32 → Int32 → Int32 → Int64 → Int32 → Prop) (v0 : List Int32) (x5 : Int32) (x7 : Int64) (x9 : Int64) (x11 : Int64) (x13 : Int64) (x15 : Int32) (x16 : Int32) (x17 : Int32) : Prop := ((x16 < x17 → True) ∧ (¬ (x16 < x17) → ((x17 = x16 → q2_151 v0 x5 x7 x9 (x11 ^^^ (255 : Int64)) (x13 ^^^ (0 : Int64)) x15 x16 x17 (1 : Int32) (0 : Int64) (0 : Int32)) ∧ (¬ (x17 = x16) → ((x17 < (x16 - (1 : Int32)) → ((s3_0 v0 (x5 + (x17 * (8 : Int32))) (8 : Int32)) ∧ q2_151 v0 x5 x7 x9 x11 (x13 ^^^ (f3_0 v0 (x5 + (x17 * (8 : Int32))) (8 : Int32))) x15 x16 x17 (0 : Int32) (f3_0 v0 (x5 + (x17 * (8 : Int32))) (8 : Int32)) (0 : Int32))) ∧ (¬ (x17 < (x16 - (1 : Int32))) → ((s3_0 v0 (x5 + (x17 * (8 : Int32))) (own_rem x15 (8 : Int32))) ∧ q2_151 v0 x5 x7 x9 x11 (x13 ^^^ ((own_lshl x15.toInt64 (56 : Int32)) ||| (f3_0 v0 (x5 + (x17 * (8 : Int32))) (own_rem x15 (8 : Int32))))) x15 x16 x17 (0 : Int32) ((own_lshl x15.toInt64 (56 : Int32)) ||| (f3_0 v0 (x5 + (x17 * (8 : Int32))) (own_rem x15 (8 : Int32)))) (0 : Int32))))))))
set_option maxRecDepth 65536 in
set_option maxHeartbeats 40000000 in
theorem b2_47_3 {r2_151 : List Int32 → Int32 → Int64 → Int64 → Int64 → Int64 → Int32 → Int32 → Int32 → Int32 → Int64 → Int32 → Int64} {q2_151 : List Int32 → Int32 → Int64 → Int64 → Int64 → Int64 → Int32 → Int32 → Int32 → Int32 → Int64 → Int32 → Prop} (C : own_Cx p s m meth c Z ag prog_73_method_2_code 23 "com/example/fairtally/fairtally/ledger/csv/SipHash" (some .long) "of")
    (hr2_151 : ∀ {T : State} {h : Heap} {z0 : Int64} {z2 : Int64} {z6 : Slot} {z19 : Slot} (a0 : Addr) (v0 : List Int32) (x5 : Int32) (x7 : Int64) (x9 : Int64) (x11 : Int64) (x13 : Int64) (x15 : Int32) (x16 : Int32) (x17 : Int32) (x18 : Int32) (x20 : Int64) (x22 : Int32) (X : Stand p l e R2 s m args below meth c T [] 0 0) (eT : T.heap = h) (Aa0 : own_AI Z h a0 .byte v0) (hz6 : One z6) (hz19 : One z19) (hs : q2_151 v0 x5 x7 x9 x11 x13 x15 x16 x17 x18 x20 x22) (hK : K (some (.long (r2_151 v0 x5 x7 x9 x11 x13 x15 x16 x17 x18 x20 x22))) h []), own_Go p e below (own_Q s K cc2 ss2) T (mkF m 151 #[.val (.long z0), .second, .val (.long z2), .second, .val (.ref a0), .val (.int x5), z6, .val (.long x7), .second, .val (.long x9), .second, .val (.long x11), .second, .val (.long x13), .second, .val (.int x15), .val (.int x16), .val (.int x17), .val (.int x18), z19, .val (.long x20), .second, .val (.int x22)] [])) {T : State} {h : Heap} {z0 : Int64} {z2 : Int64} {z20 : Int64} {z6 : Slot} {z18 : Slot} {z19 : Slot} {z22 : Slot} (a0 : Addr) (v0 : List Int32) (x5 : Int32) (x7 : Int64) (x9 : Int64) (x11 : Int64) (x13 : Int64) (x15 : Int32) (x16 : Int32) (x17 : Int32) (X : Stand p l e R2 s m args below meth c T [] 0 0) (eT : T.heap = h) (Aa0 : own_AI Z h a0 .byte v0) (hz6 : One z6) (hz18 : One z18) (hz19 : One z19) (hz22 : One z22) (hs : s2_47_3 q2_151 v0 x5 x7 x9 x11 x13 x15 x16 x17) (hK : K (some (.long (f2_47_3 r2_151 v0 x5 x7 x9 x11 x13 x15 x16 x17))) h []) : own_Go p e below (own_Q s K cc2 ss2) T (mkF m 47 #[.val (.long z0), .second, .val (.long z2), .second, .val (.ref a0), .val (.int x5), z6, .val (.long x7), .second, .val (.long x9), .second, .val (.long x11), .second, .val (.long x13), .second, .val (.int x15), .val (.int x16), .val (.int x17), z18, z19, .val (.long z20), .second, z22] []) := by
  obtain ⟨hx, hZ, hw, hby, hml, hown, hret, hlk, hnm⟩ := id C
  unfold f2_47_3 at hK
  unfold s2_47_3 at hs
  refine o_iload (pc' := 49) X hx (hb hby d2_47) rfl rfl ?_
  refine o_iload (pc' := 51) X hx (hb hby d2_49) rfl rfl ?_
  refine o_icP (P := x16 < x17) (pc1 := 295) (pc2 := 54) X hx XT.ii_gt_t XT.ii_gt_f (hb hby d2_51) (by decide) (by decide) rfl (fun c13 => ?_) (fun c13 => ?_)
  · rw [if_pos c13] at hK
    refine o_lload (pc' := 297) X hx (hb hby d2_295) rfl rfl ?_
    refine o_lload (pc' := 299) X hx (hb hby d2_297) rfl rfl ?_
    refine o_lxor (pc' := 300)  X hx (hb hby d2_299) rfl rfl ?_
    refine o_lload (pc' := 302) X hx (hb hby d2_300) rfl rfl ?_
    refine o_lxor (pc' := 303)  X hx (hb hby d2_302) rfl rfl ?_
    refine o_lload (pc' := 305) X hx (hb hby d2_303) rfl rfl ?_
    refine o_lxor (pc' := 306)  X hx (hb hby d2_305) rfl rfl ?_
    exact o_retL X hx hret hlk (hb hby d2_306) (by decide) (by decide) eT (hK)
  · rw [if_neg c13] at hK
    refine o_iload (pc' := 56) X hx (hb hby d2_54) rfl rfl ?_
    refine o_iload (pc' := 58) X hx (hb hby d2_56) rfl rfl ?_
    refine o_icN (P := x17 = x16) (pc1 := 65) (pc2 := 61) X hx XT.ii_ne_f XT.ii_ne_t (hb hby d2_58) (by decide) (by decide) rfl (fun c14 => ?_) (fun c14 => ?_)
    · rw [if_neg c14] at hK
      refine o_iconst (pc' := 66) (x := (0 : Int32)) X hx (hb hby d2_65) (by decide) rfl ?_
      refine o_istoreS (pc' := 68) (l' := #[.val (.long z0), .second, .val (.long z2), .second, .val (.ref a0), .val (.int x5), z6, .val (.long x7), .second, .val (.long x9), .second, .val (.long x11), .second, .val (.long x13), .second, .val (.int x15), .val (.int x16), .val (.int x17), .val (.int (0 : Int32)), z19, .val (.long z20), .second, z22]) X hx (hb hby d2_66) rfl hz18 rfl rfl ?_
      refine o_iload (pc' := 70) X hx (hb hby d2_68) rfl rfl ?_
      refine o_iload (pc' := 72) X hx (hb hby d2_70) rfl rfl ?_
      refine o_bipush (pc' := 74) (x := (8 : Int32)) X hx (hb hby d2_72) (by decide) rfl ?_
      refine o_imul (pc' := 75)  X hx (hb hby d2_74) rfl rfl ?_
      refine o_iadd (pc' := 76)  X hx (hb hby d2_75) rfl rfl ?_
      refine o_istoreS (pc' := 78) (l' := #[.val (.long z0), .second, .val (.long z2), .second, .val (.ref a0), .val (.int x5), z6, .val (.long x7), .second, .val (.long x9), .second, .val (.long x11), .second, .val (.long x13), .second, .val (.int x15), .val (.int x16), .val (.int x17), .val (.int (0 : Int32)), .val (.int (x5 + (x17 * (8 : Int32)))), .val (.long z20), .second, z22]) X hx (hb hby d2_76) rfl hz19 rfl rfl ?_
      refine o_lconst (pc' := 79) (u := (0 : Int64)) X hx (hb hby d2_78) (by decide) rfl ?_
      refine o_lstore (pc' := 81) (l' := #[.val (.long z0), .second, .val (.long z2), .second, .val (.ref a0), .val (.int x5), z6, .val (.long x7), .second, .val (.long x9), .second, .val (.long x11), .second, .val (.long x13), .second, .val (.int x15), .val (.int x16), .val (.int x17), .val (.int (0 : Int32)), .val (.int (x5 + (x17 * (8 : Int32)))), .val (.long (0 : Int64)), .second, z22]) X hx (hb hby d2_79) rfl rfl ?_
      refine o_iload (pc' := 83) X hx (hb hby d2_81) rfl rfl ?_
      refine o_ifY (pc' := 97) X hx (by decide) (hb hby d2_83) (by decide) (by decide) ?_
      refine o_iload (pc' := 99) X hx (hb hby d2_97) rfl rfl ?_
      refine o_iload (pc' := 101) X hx (hb hby d2_99) rfl rfl ?_
      refine o_iconst (pc' := 102) (x := (1 : Int32)) X hx (hb hby d2_101) (by decide) rfl ?_
      refine o_isub (pc' := 103)  X hx (hb hby d2_102) rfl rfl ?_
      refine o_icN (P := x17 < (x16 - (1 : Int32))) (pc1 := 120) (pc2 := 106) X hx XT.ii_ge_f XT.ii_ge_t (hb hby d2_103) (by decide) (by decide) rfl (fun c15 => ?_) (fun c15 => ?_)
      · rw [if_neg c15] at hK
        refine o_iload (pc' := 122) X hx (hb hby d2_120) rfl rfl ?_
        refine o_i2l (pc' := 123)  X hx (hb hby d2_122) rfl rfl ?_
        refine o_bipush (pc' := 125) (x := (56 : Int32)) X hx (hb hby d2_123) (by decide) rfl ?_
        refine o_lshl (pc' := 126)  X hx (hb hby d2_125) rfl rfl ?_
        refine o_aload (pc' := 128) X hx (hb hby d2_126) rfl rfl rfl ?_
        refine o_iload (pc' := 130) X hx (hb hby d2_128) rfl rfl ?_
        refine o_iload (pc' := 132) X hx (hb hby d2_130) rfl rfl ?_
        refine o_bipush (pc' := 134) (x := (8 : Int32)) X hx (hb hby d2_132) (by decide) rfl ?_
        refine o_irem (pc' := 135)  X hx (hb hby d2_134) rfl (by decide) rfl ?_
        refine o_callP (W := 2) (pc' := 138) (argsL := [(.ref a0), (.int (x5 + (x17 * (8 : Int32)))), (.int (own_rem x15 (8 : Int32)))]) (rest := [(.long (own_lshl x15.toInt64 (56 : Int32)))]) (st' := [(.long (f3_0 v0 (x5 + (x17 * (8 : Int32))) (own_rem x15 (8 : Int32)))), (.long (own_lshl x15.toInt64 (56 : Int32)))]) X hx hZ eT hown (hw _ (List.mem_of_getElem? (i := 34) rfl)) (hw _ (List.mem_of_getElem? (i := 35) rfl)) (hw _ (List.mem_of_getElem? (i := 28) rfl)) (hw _ (List.mem_of_getElem? (i := 36) rfl)) (by decide) (rm3 l Z ag hw [] a0 v0 (x5 + (x17 * (8 : Int32))) (own_rem x15 (8 : Int32)) h Aa0 (((hs.2 c13).2 c14).2 c15).1) (by decide) (by decide) (by rw [hml]; rfl) pd_0 rfl rfl rfl rfl (hb hby d2_135) rfl rfl rfl (by decide) (by decide) rfl fun T16 X16 e16 => ?_
        refine o_lor (pc' := 139)  X16 hx (hb hby d2_138) rfl rfl ?_
        refine o_lstore (pc' := 141) (l' := #[.val (.long z0), .second, .val (.long z2), .second, .val (.ref a0), .val (.int x5), z6, .val (.long x7), .second, .val (.long x9), .second, .val (.long x11), .second, .val (.long x13), .second, .val (.int x15), .val (.int x16), .val (.int x17), .val (.int (0 : Int32)), .val (.int (x5 + (x17 * (8 : Int32)))), .val (.long ((own_lshl x15.toInt64 (56 : Int32)) ||| (f3_0 v0 (x5 + (x17 * (8 : Int32))) (own_rem x15 (8 : Int32))))), .second, z22]) X16 hx (hb hby d2_139) rfl rfl ?_
        refine o_lload (pc' := 143) X16 hx (hb hby d2_141) rfl rfl ?_
        refine o_lload (pc' := 145) X16 hx (hb hby d2_143) rfl rfl ?_
        refine o_lxor (pc' := 146)  X16 hx (hb hby d2_145) rfl rfl ?_
        refine o_lstore (pc' := 148) (l' := #[.val (.long z0), .second, .val (.long z2), .second, .val (.ref a0), .val (.int x5), z6, .val (.long x7), .second, .val (.long x9), .second, .val (.long x11), .second, .val (.long (x13 ^^^ ((own_lshl x15.toInt64 (56 : Int32)) ||| (f3_0 v0 (x5 + (x17 * (8 : Int32))) (own_rem x15 (8 : Int32)))))), .second, .val (.int x15), .val (.int x16), .val (.int x17), .val (.int (0 : Int32)), .val (.int (x5 + (x17 * (8 : Int32)))), .val (.long ((own_lshl x15.toInt64 (56 : Int32)) ||| (f3_0 v0 (x5 + (x17 * (8 : Int32))) (own_rem x15 (8 : Int32))))), .second, z22]) X16 hx (hb hby d2_146) rfl rfl ?_
        refine o_iconst (pc' := 149) (x := (0 : Int32)) X16 hx (hb hby d2_148) (by decide) rfl ?_
        refine o_istoreS (pc' := 151) (l' := #[.val (.long z0), .second, .val (.long z2), .second, .val (.ref a0), .val (.int x5), z6, .val (.long x7), .second, .val (.long x9), .second, .val (.long x11), .second, .val (.long (x13 ^^^ ((own_lshl x15.toInt64 (56 : Int32)) ||| (f3_0 v0 (x5 + (x17 * (8 : Int32))) (own_rem x15 (8 : Int32)))))), .second, .val (.int x15), .val (.int x16), .val (.int x17), .val (.int (0 : Int32)), .val (.int (x5 + (x17 * (8 : Int32)))), .val (.long ((own_lshl x15.toInt64 (56 : Int32)) ||| (f3_0 v0 (x5 + (x17 * (8 : Int32))) (own_rem x15 (8 : Int32))))), .second, .val (.int (0 : Int32))]) X16 hx (hb hby d2_149) rfl hz22 rfl rfl ?_
        exact hr2_151 a0 v0 x5 x7 x9 x11 (x13 ^^^ ((own_lshl x15.toInt64 (56 : Int32)) ||| (f3_0 v0 (x5 + (x17 * (8 : Int32))) (own_rem x15 (8 : Int32))))) x15 x16 x17 (0 : Int32) ((own_lshl x15.toInt64 (56 : Int32)) ||| (f3_0 v0 (x5 + (x17 * (8 : Int32))) (own_rem x15 (8 : Int32)))) (0 : Int32) X16 e16 Aa0 hz6 (One.val rfl) (((hs.2 c13).2 c14).2 c15).2 hK
      · rw [if_pos c15] at hK
        refine o_aload (pc' := 108) X hx (hb hby d2_106) rfl rfl rfl ?_
        refine o_iload (pc' := 110) X hx (hb hby d2_108) rfl rfl ?_
        refine o_bipush (pc' := 112) (x := (8 : Int32)) X hx (hb hby d2_110) (by decide) rfl ?_
        refine o_callP (W := 0) (pc' := 115) (argsL := [(.ref a0), (.int (x5 + (x17 * (8 : Int32)))), (.int (8 : Int32))]) (rest := []) (st' := [(.long (f3_0 v0 (x5 + (x17 * (8 : Int32))) (8 : Int32)))]) X hx hZ eT hown (hw _ (List.mem_of_getElem? (i := 34) rfl)) (hw _ (List.mem_of_getElem? (i := 35) rfl)) (hw _ (List.mem_of_getElem? (i := 28) rfl)) (hw _ (List.mem_of_getElem? (i := 36) rfl)) (by decide) (rm3 l Z ag hw [] a0 v0 (x5 + (x17 * (8 : Int32))) (8 : Int32) h Aa0 (((hs.2 c13).2 c14).1 c15).1) (by decide) (by decide) (by rw [hml]; rfl) pd_0 rfl rfl rfl rfl (hb hby d2_112) rfl rfl rfl (by decide) (by decide) rfl fun T17 X17 e17 => ?_
        refine o_lstore (pc' := 117) (l' := #[.val (.long z0), .second, .val (.long z2), .second, .val (.ref a0), .val (.int x5), z6, .val (.long x7), .second, .val (.long x9), .second, .val (.long x11), .second, .val (.long x13), .second, .val (.int x15), .val (.int x16), .val (.int x17), .val (.int (0 : Int32)), .val (.int (x5 + (x17 * (8 : Int32)))), .val (.long (f3_0 v0 (x5 + (x17 * (8 : Int32))) (8 : Int32))), .second, z22]) X17 hx (hb hby d2_115) rfl rfl ?_
        refine o_goto (pc' := 141) X17 hx (hb hby d2_117) (by decide) (by decide) ?_
        refine o_lload (pc' := 143) X17 hx (hb hby d2_141) rfl rfl ?_
        refine o_lload (pc' := 145) X17 hx (hb hby d2_143) rfl rfl ?_
        refine o_lxor (pc' := 146)  X17 hx (hb hby d2_145) rfl rfl ?_
        refine o_lstore (pc' := 148) (l' := #[.val (.long z0), .second, .val (.long z2), .second, .val (.ref a0), .val (.int x5), z6, .val (.long x7), .second, .val (.long x9), .second, .val (.long x11), .second, .val (.long (x13 ^^^ (f3_0 v0 (x5 + (x17 * (8 : Int32))) (8 : Int32)))), .second, .val (.int x15), .val (.int x16), .val (.int x17), .val (.int (0 : Int32)), .val (.int (x5 + (x17 * (8 : Int32)))), .val (.long (f3_0 v0 (x5 + (x17 * (8 : Int32))) (8 : Int32))), .second, z22]) X17 hx (hb hby d2_146) rfl rfl ?_
        refine o_iconst (pc' := 149) (x := (0 : Int32)) X17 hx (hb hby d2_148) (by decide) rfl ?_
        refine o_istoreS (pc' := 151) (l' := #[.val (.long z0), .second, .val (.long z2), .second, .val (.ref a0), .val (.int x5), z6, .val (.long x7), .second, .val (.long x9), .second, .val (.long x11), .second, .val (.long (x13 ^^^ (f3_0 v0 (x5 + (x17 * (8 : Int32))) (8 : Int32)))), .second, .val (.int x15), .val (.int x16), .val (.int x17), .val (.int (0 : Int32)), .val (.int (x5 + (x17 * (8 : Int32)))), .val (.long (f3_0 v0 (x5 + (x17 * (8 : Int32))) (8 : Int32))), .second, .val (.int (0 : Int32))]) X17 hx (hb hby d2_149) rfl hz22 rfl rfl ?_
        exact hr2_151 a0 v0 x5 x7 x9 x11 (x13 ^^^ (f3_0 v0 (x5 + (x17 * (8 : Int32))) (8 : Int32))) x15 x16 x17 (0 : Int32) (f3_0 v0 (x5 + (x17 * (8 : Int32))) (8 : Int32)) (0 : Int32) X17 e17 Aa0 hz6 (One.val rfl) (((hs.2 c13).2 c14).1 c15).2 hK
    · rw [if_pos c14] at hK
      refine o_iconst (pc' := 62) (x := (1 : Int32)) X hx (hb hby d2_61) (by decide) rfl ?_
      refine o_goto (pc' := 66) X hx (hb hby d2_62) (by decide) (by decide) ?_
      refine o_istoreS (pc' := 68) (l' := #[.val (.long z0), .second, .val (.long z2), .second, .val (.ref a0), .val (.int x5), z6, .val (.long x7), .second, .val (.long x9), .second, .val (.long x11), .second, .val (.long x13), .second, .val (.int x15), .val (.int x16), .val (.int x17), .val (.int (1 : Int32)), z19, .val (.long z20), .second, z22]) X hx (hb hby d2_66) rfl hz18 rfl rfl ?_
      refine o_iload (pc' := 70) X hx (hb hby d2_68) rfl rfl ?_
      refine o_iload (pc' := 72) X hx (hb hby d2_70) rfl rfl ?_
      refine o_bipush (pc' := 74) (x := (8 : Int32)) X hx (hb hby d2_72) (by decide) rfl ?_
      refine o_imul (pc' := 75)  X hx (hb hby d2_74) rfl rfl ?_
      refine o_iadd (pc' := 76)  X hx (hb hby d2_75) rfl rfl ?_
      refine o_istoreS (pc' := 78) (l' := #[.val (.long z0), .second, .val (.long z2), .second, .val (.ref a0), .val (.int x5), z6, .val (.long x7), .second, .val (.long x9), .second, .val (.long x11), .second, .val (.long x13), .second, .val (.int x15), .val (.int x16), .val (.int x17), .val (.int (1 : Int32)), .val (.int (x5 + (x17 * (8 : Int32)))), .val (.long z20), .second, z22]) X hx (hb hby d2_76) rfl hz19 rfl rfl ?_
      refine o_lconst (pc' := 79) (u := (0 : Int64)) X hx (hb hby d2_78) (by decide) rfl ?_
      refine o_lstore (pc' := 81) (l' := #[.val (.long z0), .second, .val (.long z2), .second, .val (.ref a0), .val (.int x5), z6, .val (.long x7), .second, .val (.long x9), .second, .val (.long x11), .second, .val (.long x13), .second, .val (.int x15), .val (.int x16), .val (.int x17), .val (.int (1 : Int32)), .val (.int (x5 + (x17 * (8 : Int32)))), .val (.long (0 : Int64)), .second, z22]) X hx (hb hby d2_79) rfl rfl ?_
      refine o_iload (pc' := 83) X hx (hb hby d2_81) rfl rfl ?_
      refine o_ifX (pc' := 86) X hx (by decide) (hb hby d2_83) rfl ?_
      refine o_lload (pc' := 88) X hx (hb hby d2_86) rfl rfl ?_
      refine o_ldcL (pc' := 91) X hx hZ hown (hw _ (List.mem_of_getElem? (i := 41) rfl)) (hb hby d2_88) rfl ?_
      refine o_lxor (pc' := 92)  X hx (hb hby d2_91) rfl rfl ?_
      refine o_lstore (pc' := 94) (l' := #[.val (.long z0), .second, .val (.long z2), .second, .val (.ref a0), .val (.int x5), z6, .val (.long x7), .second, .val (.long x9), .second, .val (.long (x11 ^^^ (255 : Int64))), .second, .val (.long x13), .second, .val (.int x15), .val (.int x16), .val (.int x17), .val (.int (1 : Int32)), .val (.int (x5 + (x17 * (8 : Int32)))), .val (.long (0 : Int64)), .second, z22]) X hx (hb hby d2_92) rfl rfl ?_
      refine o_goto (pc' := 141) X hx (hb hby d2_94) (by decide) (by decide) ?_
      refine o_lload (pc' := 143) X hx (hb hby d2_141) rfl rfl ?_
      refine o_lload (pc' := 145) X hx (hb hby d2_143) rfl rfl ?_
      refine o_lxor (pc' := 146)  X hx (hb hby d2_145) rfl rfl ?_
      refine o_lstore (pc' := 148) (l' := #[.val (.long z0), .second, .val (.long z2), .second, .val (.ref a0), .val (.int x5), z6, .val (.long x7), .second, .val (.long x9), .second, .val (.long (x11 ^^^ (255 : Int64))), .second, .val (.long (x13 ^^^ (0 : Int64))), .second, .val (.int x15), .val (.int x16), .val (.int x17), .val (.int (1 : Int32)), .val (.int (x5 + (x17 * (8 : Int32)))), .val (.long (0 : Int64)), .second, z22]) X hx (hb hby d2_146) rfl rfl ?_
      refine o_iconst (pc' := 149) (x := (0 : Int32)) X hx (hb hby d2_148) (by decide) rfl ?_
      refine o_istoreS (pc' := 151) (l' := #[.val (.long z0), .second, .val (.long z2), .second, .val (.ref a0), .val (.int x5), z6, .val (.long x7), .second, .val (.long x9), .second, .val (.long (x11 ^^^ (255 : Int64))), .second, .val (.long (x13 ^^^ (0 : Int64))), .second, .val (.int x15), .val (.int x16), .val (.int x17), .val (.int (1 : Int32)), .val (.int (x5 + (x17 * (8 : Int32)))), .val (.long (0 : Int64)), .second, .val (.int (0 : Int32))]) X hx (hb hby d2_149) rfl hz22 rfl rfl ?_
      exact hr2_151 a0 v0 x5 x7 x9 (x11 ^^^ (255 : Int64)) (x13 ^^^ (0 : Int64)) x15 x16 x17 (1 : Int32) (0 : Int64) (0 : Int32) X eT Aa0 hz6 (One.val rfl) ((hs.2 c13).1 c14) hK

def f2_151 : Nat → List Int32 → Int32 → Int64 → Int64 → Int64 → Int64 → Int32 → Int32 → Int32 → Int32 → Int64 → Int32 → Int64
  | 0, _, _, _, _, _, _, _, _, _, _, _, _ => 0
  | n + 1, v0, x5, x7, x9, x11, x13, x15, x16, x17, x18, x20, x22 => (if x18 = (0 : Int32) then (if x22 < (2 : Int32) then (f2_151 n v0 x5 ((f4_0 (x7 + x9) (32 : Int32)) + ((f4_0 x13 (16 : Int32)) ^^^ (x11 + x13))) ((f4_0 ((f4_0 x9 (13 : Int32)) ^^^ (x7 + x9)) (17 : Int32)) ^^^ ((x11 + x13) + ((f4_0 x9 (13 : Int32)) ^^^ (x7 + x9)))) (f4_0 ((x11 + x13) + ((f4_0 x9 (13 : Int32)) ^^^ (x7 + x9))) (32 : Int32)) ((f4_0 ((f4_0 x13 (16 : Int32)) ^^^ (x11 + x13)) (21 : Int32)) ^^^ ((f4_0 (x7 + x9) (32 : Int32)) + ((f4_0 x13 (16 : Int32)) ^^^ (x11 + x13)))) x15 x16 x17 x18 x20 (x22 + (1 : Int32))) else (f2_47_3 (f2_151 n) v0 x5 (x7 ^^^ x20) x9 x11 x13 x15 x16 (x17 + (1 : Int32)))) else (if x22 < (4 : Int32) then (f2_151 n v0 x5 ((f4_0 (x7 + x9) (32 : Int32)) + ((f4_0 x13 (16 : Int32)) ^^^ (x11 + x13))) ((f4_0 ((f4_0 x9 (13 : Int32)) ^^^ (x7 + x9)) (17 : Int32)) ^^^ ((x11 + x13) + ((f4_0 x9 (13 : Int32)) ^^^ (x7 + x9)))) (f4_0 ((x11 + x13) + ((f4_0 x9 (13 : Int32)) ^^^ (x7 + x9))) (32 : Int32)) ((f4_0 ((f4_0 x13 (16 : Int32)) ^^^ (x11 + x13)) (21 : Int32)) ^^^ ((f4_0 (x7 + x9) (32 : Int32)) + ((f4_0 x13 (16 : Int32)) ^^^ (x11 + x13)))) x15 x16 x17 x18 x20 (x22 + (1 : Int32))) else (f2_47_3 (f2_151 n) v0 x5 (x7 ^^^ x20) x9 x11 x13 x15 x16 (x17 + (1 : Int32)))))
def s2_151 : Nat → List Int32 → Int32 → Int64 → Int64 → Int64 → Int64 → Int32 → Int32 → Int32 → Int32 → Int64 → Int32 → Prop
  | 0, _, _, _, _, _, _, _, _, _, _, _, _ => False
  | n + 1, v0, x5, x7, x9, x11, x13, x15, x16, x17, x18, x20, x22 => ((x18 = (0 : Int32) → ((x22 < (2 : Int32) → s2_151 n v0 x5 ((f4_0 (x7 + x9) (32 : Int32)) + ((f4_0 x13 (16 : Int32)) ^^^ (x11 + x13))) ((f4_0 ((f4_0 x9 (13 : Int32)) ^^^ (x7 + x9)) (17 : Int32)) ^^^ ((x11 + x13) + ((f4_0 x9 (13 : Int32)) ^^^ (x7 + x9)))) (f4_0 ((x11 + x13) + ((f4_0 x9 (13 : Int32)) ^^^ (x7 + x9))) (32 : Int32)) ((f4_0 ((f4_0 x13 (16 : Int32)) ^^^ (x11 + x13)) (21 : Int32)) ^^^ ((f4_0 (x7 + x9) (32 : Int32)) + ((f4_0 x13 (16 : Int32)) ^^^ (x11 + x13)))) x15 x16 x17 x18 x20 (x22 + (1 : Int32))) ∧ (¬ (x22 < (2 : Int32)) → s2_47_3 (s2_151 n) v0 x5 (x7 ^^^ x20) x9 x11 x13 x15 x16 (x17 + (1 : Int32))))) ∧ (¬ (x18 = (0 : Int32)) → ((x22 < (4 : Int32) → s2_151 n v0 x5 ((f4_0 (x7 + x9) (32 : Int32)) + ((f4_0 x13 (16 : Int32)) ^^^ (x11 + x13))) ((f4_0 ((f4_0 x9 (13 : Int32)) ^^^ (x7 + x9)) (17 : Int32)) ^^^ ((x11 + x13) + ((f4_0 x9 (13 : Int32)) ^^^ (x7 + x9)))) (f4_0 ((x11 + x13) + ((f4_0 x9 (13 : Int32)) ^^^ (x7 + x9))) (32 : Int32)) ((f4_0 ((f4_0 x13 (16 : Int32)) ^^^ (x11 + x13)) (21 : Int32)) ^^^ ((f4_0 (x7 + x9) (32 : Int32)) + ((f4_0 x13 (16 : Int32)) ^^^ (x11 + x13)))) x15 x16 x17 x18 x20 (x22 + (1 : Int32))) ∧ (¬ (x22 < (4 : Int32)) → s2_47_3 (s2_151 n) v0 x5 (x7 ^^^ x20) x9 x11 x13 x15 x16 (x17 + (1 : Int32))))))
set_option maxRecDepth 65536 in
set_option maxHeartbeats 40000000 in
theorem b2_151 (C : own_Cx p s m meth c Z ag prog_73_method_2_code 23 "com/example/fairtally/fairtally/ledger/csv/SipHash" (some .long) "of") :
    ∀ (n : Nat) {T : State} {h : Heap} {z0 : Int64} {z2 : Int64} {z6 : Slot} {z19 : Slot} (a0 : Addr) (v0 : List Int32) (x5 : Int32) (x7 : Int64) (x9 : Int64) (x11 : Int64) (x13 : Int64) (x15 : Int32) (x16 : Int32) (x17 : Int32) (x18 : Int32) (x20 : Int64) (x22 : Int32) (X : Stand p l e R2 s m args below meth c T [] 0 0) (eT : T.heap = h) (Aa0 : own_AI Z h a0 .byte v0) (hz6 : One z6) (hz19 : One z19) (hs : s2_151 n v0 x5 x7 x9 x11 x13 x15 x16 x17 x18 x20 x22) (hK : K (some (.long (f2_151 n v0 x5 x7 x9 x11 x13 x15 x16 x17 x18 x20 x22))) h []), own_Go p e below (own_Q s K cc2 ss2) T (mkF m 151 #[.val (.long z0), .second, .val (.long z2), .second, .val (.ref a0), .val (.int x5), z6, .val (.long x7), .second, .val (.long x9), .second, .val (.long x11), .second, .val (.long x13), .second, .val (.int x15), .val (.int x16), .val (.int x17), .val (.int x18), z19, .val (.long x20), .second, .val (.int x22)] []) := by
  intro n
  induction n with
  | zero => intros; rename_i hs _; exact hs.elim
  | succ n ih =>
    intro T h z0 z2 z6 z19 a0 v0 x5 x7 x9 x11 x13 x15 x16 x17 x18 x20 x22 X eT Aa0 hz6 hz19 hs hK
    obtain ⟨hx, hZ, hw, hby, hml, hown, hret, hlk, hnm⟩ := id C
    unfold f2_151 at hK
    unfold s2_151 at hs
    refine o_iload (pc' := 153) X hx (hb hby d2_151) rfl rfl ?_
    refine o_iload (pc' := 155) X hx (hb hby d2_153) rfl rfl ?_
    refine o_ifP (P := x18 = (0 : Int32)) (pc1 := 162) (pc2 := 158) X hx XT.i0_eq_t XT.i0_eq_f (hb hby d2_155) (by decide) (by decide) rfl (fun c11 => ?_) (fun c11 => ?_)
    · rw [if_pos c11] at hK
      refine o_iconst (pc' := 163) (x := (2 : Int32)) X hx (hb hby d2_162) (by decide) rfl ?_
      refine o_icN (P := x22 < (2 : Int32)) (pc1 := 282) (pc2 := 166) X hx XT.ii_ge_f XT.ii_ge_t (hb hby d2_163) (by decide) (by decide) rfl (fun c12 => ?_) (fun c12 => ?_)
      · rw [if_neg c12] at hK
        refine o_lload (pc' := 284) X hx (hb hby d2_282) rfl rfl ?_
        refine o_lload (pc' := 286) X hx (hb hby d2_284) rfl rfl ?_
        refine o_lxor (pc' := 287)  X hx (hb hby d2_286) rfl rfl ?_
        refine o_lstore (pc' := 289) (l' := #[.val (.long z0), .second, .val (.long z2), .second, .val (.ref a0), .val (.int x5), z6, .val (.long (x7 ^^^ x20)), .second, .val (.long x9), .second, .val (.long x11), .second, .val (.long x13), .second, .val (.int x15), .val (.int x16), .val (.int x17), .val (.int x18), z19, .val (.long x20), .second, .val (.int x22)]) X hx (hb hby d2_287) rfl rfl ?_
        refine o_iinc (pc' := 292) (y := (x17 + (1 : Int32))) (l' := #[.val (.long z0), .second, .val (.long z2), .second, .val (.ref a0), .val (.int x5), z6, .val (.long (x7 ^^^ x20)), .second, .val (.long x9), .second, .val (.long x11), .second, .val (.long x13), .second, .val (.int x15), .val (.int x16), .val (.int (x17 + (1 : Int32))), .val (.int x18), z19, .val (.long x20), .second, .val (.int x22)]) X hx (hb hby d2_289) rfl rfl rfl rfl ?_
        refine o_goto (pc' := 47) X hx (hb hby d2_292) (by decide) (by decide) ?_
        exact b2_47_3 (r2_151 := f2_151 n) (q2_151 := s2_151 n) C ih a0 v0 x5 (x7 ^^^ x20) x9 x11 x13 x15 x16 (x17 + (1 : Int32)) X eT Aa0 hz6 (One.val rfl) hz19 (One.val rfl) ((hs.1 c11).2 c12) hK
      · rw [if_pos c12] at hK
        refine o_lload (pc' := 168) X hx (hb hby d2_166) rfl rfl ?_
        refine o_lload (pc' := 170) X hx (hb hby d2_168) rfl rfl ?_
        refine o_ladd (pc' := 171)  X hx (hb hby d2_170) rfl rfl ?_
        refine o_lstore (pc' := 173) (l' := #[.val (.long z0), .second, .val (.long z2), .second, .val (.ref a0), .val (.int x5), z6, .val (.long (x7 + x9)), .second, .val (.long x9), .second, .val (.long x11), .second, .val (.long x13), .second, .val (.int x15), .val (.int x16), .val (.int x17), .val (.int x18), z19, .val (.long x20), .second, .val (.int x22)]) X hx (hb hby d2_171) rfl rfl ?_
        refine o_lload (pc' := 175) X hx (hb hby d2_173) rfl rfl ?_
        refine o_bipush (pc' := 177) (x := (13 : Int32)) X hx (hb hby d2_175) (by decide) rfl ?_
        refine o_callP (W := 0) (pc' := 180) (argsL := [(.long x9), (.int (13 : Int32))]) (rest := []) (st' := [(.long (f4_0 x9 (13 : Int32)))]) X hx hZ eT hown (hw _ (List.mem_of_getElem? (i := 37) rfl)) (hw _ (List.mem_of_getElem? (i := 38) rfl)) (hw _ (List.mem_of_getElem? (i := 39) rfl)) (hw _ (List.mem_of_getElem? (i := 40) rfl)) (by decide) (rm4 l Z ag hw [] x9 (13 : Int32) h) (by decide) (by decide) (by rw [hml]; rfl) pd_1 rfl rfl rfl rfl (hb hby d2_177) rfl rfl rfl (by decide) (by decide) rfl fun T18 X18 e18 => ?_
        refine o_lstore (pc' := 182) (l' := #[.val (.long z0), .second, .val (.long z2), .second, .val (.ref a0), .val (.int x5), z6, .val (.long (x7 + x9)), .second, .val (.long (f4_0 x9 (13 : Int32))), .second, .val (.long x11), .second, .val (.long x13), .second, .val (.int x15), .val (.int x16), .val (.int x17), .val (.int x18), z19, .val (.long x20), .second, .val (.int x22)]) X18 hx (hb hby d2_180) rfl rfl ?_
        refine o_lload (pc' := 184) X18 hx (hb hby d2_182) rfl rfl ?_
        refine o_lload (pc' := 186) X18 hx (hb hby d2_184) rfl rfl ?_
        refine o_lxor (pc' := 187)  X18 hx (hb hby d2_186) rfl rfl ?_
        refine o_lstore (pc' := 189) (l' := #[.val (.long z0), .second, .val (.long z2), .second, .val (.ref a0), .val (.int x5), z6, .val (.long (x7 + x9)), .second, .val (.long ((f4_0 x9 (13 : Int32)) ^^^ (x7 + x9))), .second, .val (.long x11), .second, .val (.long x13), .second, .val (.int x15), .val (.int x16), .val (.int x17), .val (.int x18), z19, .val (.long x20), .second, .val (.int x22)]) X18 hx (hb hby d2_187) rfl rfl ?_
        refine o_lload (pc' := 191) X18 hx (hb hby d2_189) rfl rfl ?_
        refine o_bipush (pc' := 193) (x := (32 : Int32)) X18 hx (hb hby d2_191) (by decide) rfl ?_
        refine o_callP (W := 0) (pc' := 196) (argsL := [(.long (x7 + x9)), (.int (32 : Int32))]) (rest := []) (st' := [(.long (f4_0 (x7 + x9) (32 : Int32)))]) X18 hx hZ e18 hown (hw _ (List.mem_of_getElem? (i := 37) rfl)) (hw _ (List.mem_of_getElem? (i := 38) rfl)) (hw _ (List.mem_of_getElem? (i := 39) rfl)) (hw _ (List.mem_of_getElem? (i := 40) rfl)) (by decide) (rm4 l Z ag hw [] (x7 + x9) (32 : Int32) h) (by decide) (by decide) (by rw [hml]; rfl) pd_1 rfl rfl rfl rfl (hb hby d2_193) rfl rfl rfl (by decide) (by decide) rfl fun T19 X19 e19 => ?_
        refine o_lstore (pc' := 198) (l' := #[.val (.long z0), .second, .val (.long z2), .second, .val (.ref a0), .val (.int x5), z6, .val (.long (f4_0 (x7 + x9) (32 : Int32))), .second, .val (.long ((f4_0 x9 (13 : Int32)) ^^^ (x7 + x9))), .second, .val (.long x11), .second, .val (.long x13), .second, .val (.int x15), .val (.int x16), .val (.int x17), .val (.int x18), z19, .val (.long x20), .second, .val (.int x22)]) X19 hx (hb hby d2_196) rfl rfl ?_
        refine o_lload (pc' := 200) X19 hx (hb hby d2_198) rfl rfl ?_
        refine o_lload (pc' := 202) X19 hx (hb hby d2_200) rfl rfl ?_
        refine o_ladd (pc' := 203)  X19 hx (hb hby d2_202) rfl rfl ?_
        refine o_lstore (pc' := 205) (l' := #[.val (.long z0), .second, .val (.long z2), .second, .val (.ref a0), .val (.int x5), z6, .val (.long (f4_0 (x7 + x9) (32 : Int32))), .second, .val (.long ((f4_0 x9 (13 : Int32)) ^^^ (x7 + x9))), .second, .val (.long (x11 + x13)), .second, .val (.long x13), .second, .val (.int x15), .val (.int x16), .val (.int x17), .val (.int x18), z19, .val (.long x20), .second, .val (.int x22)]) X19 hx (hb hby d2_203) rfl rfl ?_
        refine o_lload (pc' := 207) X19 hx (hb hby d2_205) rfl rfl ?_
        refine o_bipush (pc' := 209) (x := (16 : Int32)) X19 hx (hb hby d2_207) (by decide) rfl ?_
        refine o_callP (W := 0) (pc' := 212) (argsL := [(.long x13), (.int (16 : Int32))]) (rest := []) (st' := [(.long (f4_0 x13 (16 : Int32)))]) X19 hx hZ e19 hown (hw _ (List.mem_of_getElem? (i := 37) rfl)) (hw _ (List.mem_of_getElem? (i := 38) rfl)) (hw _ (List.mem_of_getElem? (i := 39) rfl)) (hw _ (List.mem_of_getElem? (i := 40) rfl)) (by decide) (rm4 l Z ag hw [] x13 (16 : Int32) h) (by decide) (by decide) (by rw [hml]; rfl) pd_1 rfl rfl rfl rfl (hb hby d2_209) rfl rfl rfl (by decide) (by decide) rfl fun T20 X20 e20 => ?_
        refine o_lstore (pc' := 214) (l' := #[.val (.long z0), .second, .val (.long z2), .second, .val (.ref a0), .val (.int x5), z6, .val (.long (f4_0 (x7 + x9) (32 : Int32))), .second, .val (.long ((f4_0 x9 (13 : Int32)) ^^^ (x7 + x9))), .second, .val (.long (x11 + x13)), .second, .val (.long (f4_0 x13 (16 : Int32))), .second, .val (.int x15), .val (.int x16), .val (.int x17), .val (.int x18), z19, .val (.long x20), .second, .val (.int x22)]) X20 hx (hb hby d2_212) rfl rfl ?_
        refine o_lload (pc' := 216) X20 hx (hb hby d2_214) rfl rfl ?_
        refine o_lload (pc' := 218) X20 hx (hb hby d2_216) rfl rfl ?_
        refine o_lxor (pc' := 219)  X20 hx (hb hby d2_218) rfl rfl ?_
        refine o_lstore (pc' := 221) (l' := #[.val (.long z0), .second, .val (.long z2), .second, .val (.ref a0), .val (.int x5), z6, .val (.long (f4_0 (x7 + x9) (32 : Int32))), .second, .val (.long ((f4_0 x9 (13 : Int32)) ^^^ (x7 + x9))), .second, .val (.long (x11 + x13)), .second, .val (.long ((f4_0 x13 (16 : Int32)) ^^^ (x11 + x13))), .second, .val (.int x15), .val (.int x16), .val (.int x17), .val (.int x18), z19, .val (.long x20), .second, .val (.int x22)]) X20 hx (hb hby d2_219) rfl rfl ?_
        refine o_lload (pc' := 223) X20 hx (hb hby d2_221) rfl rfl ?_
        refine o_lload (pc' := 225) X20 hx (hb hby d2_223) rfl rfl ?_
        refine o_ladd (pc' := 226)  X20 hx (hb hby d2_225) rfl rfl ?_
        refine o_lstore (pc' := 228) (l' := #[.val (.long z0), .second, .val (.long z2), .second, .val (.ref a0), .val (.int x5), z6, .val (.long ((f4_0 (x7 + x9) (32 : Int32)) + ((f4_0 x13 (16 : Int32)) ^^^ (x11 + x13)))), .second, .val (.long ((f4_0 x9 (13 : Int32)) ^^^ (x7 + x9))), .second, .val (.long (x11 + x13)), .second, .val (.long ((f4_0 x13 (16 : Int32)) ^^^ (x11 + x13))), .second, .val (.int x15), .val (.int x16), .val (.int x17), .val (.int x18), z19, .val (.long x20), .second, .val (.int x22)]) X20 hx (hb hby d2_226) rfl rfl ?_
        refine o_lload (pc' := 230) X20 hx (hb hby d2_228) rfl rfl ?_
        refine o_bipush (pc' := 232) (x := (21 : Int32)) X20 hx (hb hby d2_230) (by decide) rfl ?_
        refine o_callP (W := 0) (pc' := 235) (argsL := [(.long ((f4_0 x13 (16 : Int32)) ^^^ (x11 + x13))), (.int (21 : Int32))]) (rest := []) (st' := [(.long (f4_0 ((f4_0 x13 (16 : Int32)) ^^^ (x11 + x13)) (21 : Int32)))]) X20 hx hZ e20 hown (hw _ (List.mem_of_getElem? (i := 37) rfl)) (hw _ (List.mem_of_getElem? (i := 38) rfl)) (hw _ (List.mem_of_getElem? (i := 39) rfl)) (hw _ (List.mem_of_getElem? (i := 40) rfl)) (by decide) (rm4 l Z ag hw [] ((f4_0 x13 (16 : Int32)) ^^^ (x11 + x13)) (21 : Int32) h) (by decide) (by decide) (by rw [hml]; rfl) pd_1 rfl rfl rfl rfl (hb hby d2_232) rfl rfl rfl (by decide) (by decide) rfl fun T21 X21 e21 => ?_
        refine o_lstore (pc' := 237) (l' := #[.val (.long z0), .second, .val (.long z2), .second, .val (.ref a0), .val (.int x5), z6, .val (.long ((f4_0 (x7 + x9) (32 : Int32)) + ((f4_0 x13 (16 : Int32)) ^^^ (x11 + x13)))), .second, .val (.long ((f4_0 x9 (13 : Int32)) ^^^ (x7 + x9))), .second, .val (.long (x11 + x13)), .second, .val (.long (f4_0 ((f4_0 x13 (16 : Int32)) ^^^ (x11 + x13)) (21 : Int32))), .second, .val (.int x15), .val (.int x16), .val (.int x17), .val (.int x18), z19, .val (.long x20), .second, .val (.int x22)]) X21 hx (hb hby d2_235) rfl rfl ?_
        refine o_lload (pc' := 239) X21 hx (hb hby d2_237) rfl rfl ?_
        refine o_lload (pc' := 241) X21 hx (hb hby d2_239) rfl rfl ?_
        refine o_lxor (pc' := 242)  X21 hx (hb hby d2_241) rfl rfl ?_
        refine o_lstore (pc' := 244) (l' := #[.val (.long z0), .second, .val (.long z2), .second, .val (.ref a0), .val (.int x5), z6, .val (.long ((f4_0 (x7 + x9) (32 : Int32)) + ((f4_0 x13 (16 : Int32)) ^^^ (x11 + x13)))), .second, .val (.long ((f4_0 x9 (13 : Int32)) ^^^ (x7 + x9))), .second, .val (.long (x11 + x13)), .second, .val (.long ((f4_0 ((f4_0 x13 (16 : Int32)) ^^^ (x11 + x13)) (21 : Int32)) ^^^ ((f4_0 (x7 + x9) (32 : Int32)) + ((f4_0 x13 (16 : Int32)) ^^^ (x11 + x13))))), .second, .val (.int x15), .val (.int x16), .val (.int x17), .val (.int x18), z19, .val (.long x20), .second, .val (.int x22)]) X21 hx (hb hby d2_242) rfl rfl ?_
        refine o_lload (pc' := 246) X21 hx (hb hby d2_244) rfl rfl ?_
        refine o_lload (pc' := 248) X21 hx (hb hby d2_246) rfl rfl ?_
        refine o_ladd (pc' := 249)  X21 hx (hb hby d2_248) rfl rfl ?_
        refine o_lstore (pc' := 251) (l' := #[.val (.long z0), .second, .val (.long z2), .second, .val (.ref a0), .val (.int x5), z6, .val (.long ((f4_0 (x7 + x9) (32 : Int32)) + ((f4_0 x13 (16 : Int32)) ^^^ (x11 + x13)))), .second, .val (.long ((f4_0 x9 (13 : Int32)) ^^^ (x7 + x9))), .second, .val (.long ((x11 + x13) + ((f4_0 x9 (13 : Int32)) ^^^ (x7 + x9)))), .second, .val (.long ((f4_0 ((f4_0 x13 (16 : Int32)) ^^^ (x11 + x13)) (21 : Int32)) ^^^ ((f4_0 (x7 + x9) (32 : Int32)) + ((f4_0 x13 (16 : Int32)) ^^^ (x11 + x13))))), .second, .val (.int x15), .val (.int x16), .val (.int x17), .val (.int x18), z19, .val (.long x20), .second, .val (.int x22)]) X21 hx (hb hby d2_249) rfl rfl ?_
        refine o_lload (pc' := 253) X21 hx (hb hby d2_251) rfl rfl ?_
        refine o_bipush (pc' := 255) (x := (17 : Int32)) X21 hx (hb hby d2_253) (by decide) rfl ?_
        refine o_callP (W := 0) (pc' := 258) (argsL := [(.long ((f4_0 x9 (13 : Int32)) ^^^ (x7 + x9))), (.int (17 : Int32))]) (rest := []) (st' := [(.long (f4_0 ((f4_0 x9 (13 : Int32)) ^^^ (x7 + x9)) (17 : Int32)))]) X21 hx hZ e21 hown (hw _ (List.mem_of_getElem? (i := 37) rfl)) (hw _ (List.mem_of_getElem? (i := 38) rfl)) (hw _ (List.mem_of_getElem? (i := 39) rfl)) (hw _ (List.mem_of_getElem? (i := 40) rfl)) (by decide) (rm4 l Z ag hw [] ((f4_0 x9 (13 : Int32)) ^^^ (x7 + x9)) (17 : Int32) h) (by decide) (by decide) (by rw [hml]; rfl) pd_1 rfl rfl rfl rfl (hb hby d2_255) rfl rfl rfl (by decide) (by decide) rfl fun T22 X22 e22 => ?_
        refine o_lstore (pc' := 260) (l' := #[.val (.long z0), .second, .val (.long z2), .second, .val (.ref a0), .val (.int x5), z6, .val (.long ((f4_0 (x7 + x9) (32 : Int32)) + ((f4_0 x13 (16 : Int32)) ^^^ (x11 + x13)))), .second, .val (.long (f4_0 ((f4_0 x9 (13 : Int32)) ^^^ (x7 + x9)) (17 : Int32))), .second, .val (.long ((x11 + x13) + ((f4_0 x9 (13 : Int32)) ^^^ (x7 + x9)))), .second, .val (.long ((f4_0 ((f4_0 x13 (16 : Int32)) ^^^ (x11 + x13)) (21 : Int32)) ^^^ ((f4_0 (x7 + x9) (32 : Int32)) + ((f4_0 x13 (16 : Int32)) ^^^ (x11 + x13))))), .second, .val (.int x15), .val (.int x16), .val (.int x17), .val (.int x18), z19, .val (.long x20), .second, .val (.int x22)]) X22 hx (hb hby d2_258) rfl rfl ?_
        refine o_lload (pc' := 262) X22 hx (hb hby d2_260) rfl rfl ?_
        refine o_lload (pc' := 264) X22 hx (hb hby d2_262) rfl rfl ?_
        refine o_lxor (pc' := 265)  X22 hx (hb hby d2_264) rfl rfl ?_
        refine o_lstore (pc' := 267) (l' := #[.val (.long z0), .second, .val (.long z2), .second, .val (.ref a0), .val (.int x5), z6, .val (.long ((f4_0 (x7 + x9) (32 : Int32)) + ((f4_0 x13 (16 : Int32)) ^^^ (x11 + x13)))), .second, .val (.long ((f4_0 ((f4_0 x9 (13 : Int32)) ^^^ (x7 + x9)) (17 : Int32)) ^^^ ((x11 + x13) + ((f4_0 x9 (13 : Int32)) ^^^ (x7 + x9))))), .second, .val (.long ((x11 + x13) + ((f4_0 x9 (13 : Int32)) ^^^ (x7 + x9)))), .second, .val (.long ((f4_0 ((f4_0 x13 (16 : Int32)) ^^^ (x11 + x13)) (21 : Int32)) ^^^ ((f4_0 (x7 + x9) (32 : Int32)) + ((f4_0 x13 (16 : Int32)) ^^^ (x11 + x13))))), .second, .val (.int x15), .val (.int x16), .val (.int x17), .val (.int x18), z19, .val (.long x20), .second, .val (.int x22)]) X22 hx (hb hby d2_265) rfl rfl ?_
        refine o_lload (pc' := 269) X22 hx (hb hby d2_267) rfl rfl ?_
        refine o_bipush (pc' := 271) (x := (32 : Int32)) X22 hx (hb hby d2_269) (by decide) rfl ?_
        refine o_callP (W := 0) (pc' := 274) (argsL := [(.long ((x11 + x13) + ((f4_0 x9 (13 : Int32)) ^^^ (x7 + x9)))), (.int (32 : Int32))]) (rest := []) (st' := [(.long (f4_0 ((x11 + x13) + ((f4_0 x9 (13 : Int32)) ^^^ (x7 + x9))) (32 : Int32)))]) X22 hx hZ e22 hown (hw _ (List.mem_of_getElem? (i := 37) rfl)) (hw _ (List.mem_of_getElem? (i := 38) rfl)) (hw _ (List.mem_of_getElem? (i := 39) rfl)) (hw _ (List.mem_of_getElem? (i := 40) rfl)) (by decide) (rm4 l Z ag hw [] ((x11 + x13) + ((f4_0 x9 (13 : Int32)) ^^^ (x7 + x9))) (32 : Int32) h) (by decide) (by decide) (by rw [hml]; rfl) pd_1 rfl rfl rfl rfl (hb hby d2_271) rfl rfl rfl (by decide) (by decide) rfl fun T23 X23 e23 => ?_
        refine o_lstore (pc' := 276) (l' := #[.val (.long z0), .second, .val (.long z2), .second, .val (.ref a0), .val (.int x5), z6, .val (.long ((f4_0 (x7 + x9) (32 : Int32)) + ((f4_0 x13 (16 : Int32)) ^^^ (x11 + x13)))), .second, .val (.long ((f4_0 ((f4_0 x9 (13 : Int32)) ^^^ (x7 + x9)) (17 : Int32)) ^^^ ((x11 + x13) + ((f4_0 x9 (13 : Int32)) ^^^ (x7 + x9))))), .second, .val (.long (f4_0 ((x11 + x13) + ((f4_0 x9 (13 : Int32)) ^^^ (x7 + x9))) (32 : Int32))), .second, .val (.long ((f4_0 ((f4_0 x13 (16 : Int32)) ^^^ (x11 + x13)) (21 : Int32)) ^^^ ((f4_0 (x7 + x9) (32 : Int32)) + ((f4_0 x13 (16 : Int32)) ^^^ (x11 + x13))))), .second, .val (.int x15), .val (.int x16), .val (.int x17), .val (.int x18), z19, .val (.long x20), .second, .val (.int x22)]) X23 hx (hb hby d2_274) rfl rfl ?_
        refine o_iinc (pc' := 279) (y := (x22 + (1 : Int32))) (l' := #[.val (.long z0), .second, .val (.long z2), .second, .val (.ref a0), .val (.int x5), z6, .val (.long ((f4_0 (x7 + x9) (32 : Int32)) + ((f4_0 x13 (16 : Int32)) ^^^ (x11 + x13)))), .second, .val (.long ((f4_0 ((f4_0 x9 (13 : Int32)) ^^^ (x7 + x9)) (17 : Int32)) ^^^ ((x11 + x13) + ((f4_0 x9 (13 : Int32)) ^^^ (x7 + x9))))), .second, .val (.long (f4_0 ((x11 + x13) + ((f4_0 x9 (13 : Int32)) ^^^ (x7 + x9))) (32 : Int32))), .second, .val (.long ((f4_0 ((f4_0 x13 (16 : Int32)) ^^^ (x11 + x13)) (21 : Int32)) ^^^ ((f4_0 (x7 + x9) (32 : Int32)) + ((f4_0 x13 (16 : Int32)) ^^^ (x11 + x13))))), .second, .val (.int x15), .val (.int x16), .val (.int x17), .val (.int x18), z19, .val (.long x20), .second, .val (.int (x22 + (1 : Int32)))]) X23 hx (hb hby d2_276) rfl rfl rfl rfl ?_
        refine o_goto (pc' := 151) X23 hx (hb hby d2_279) (by decide) (by decide) ?_
        exact ih a0 v0 x5 ((f4_0 (x7 + x9) (32 : Int32)) + ((f4_0 x13 (16 : Int32)) ^^^ (x11 + x13))) ((f4_0 ((f4_0 x9 (13 : Int32)) ^^^ (x7 + x9)) (17 : Int32)) ^^^ ((x11 + x13) + ((f4_0 x9 (13 : Int32)) ^^^ (x7 + x9)))) (f4_0 ((x11 + x13) + ((f4_0 x9 (13 : Int32)) ^^^ (x7 + x9))) (32 : Int32)) ((f4_0 ((f4_0 x13 (16 : Int32)) ^^^ (x11 + x13)) (21 : Int32)) ^^^ ((f4_0 (x7 + x9) (32 : Int32)) + ((f4_0 x13 (16 : Int32)) ^^^ (x11 + x13)))) x15 x16 x17 x18 x20 (x22 + (1 : Int32)) X23 e23 Aa0 hz6 hz19 ((hs.1 c11).1 c12) hK
    · rw [if_neg c11] at hK
      refine o_iconst (pc' := 159) (x := (4 : Int32)) X hx (hb hby d2_158) (by decide) rfl ?_
      refine o_goto (pc' := 163) X hx (hb hby d2_159) (by decide) (by decide) ?_
      refine o_icN (P := x22 < (4 : Int32)) (pc1 := 282) (pc2 := 166) X hx XT.ii_ge_f XT.ii_ge_t (hb hby d2_163) (by decide) (by decide) rfl (fun c24 => ?_) (fun c24 => ?_)
      · rw [if_neg c24] at hK
        refine o_lload (pc' := 284) X hx (hb hby d2_282) rfl rfl ?_
        refine o_lload (pc' := 286) X hx (hb hby d2_284) rfl rfl ?_
        refine o_lxor (pc' := 287)  X hx (hb hby d2_286) rfl rfl ?_
        refine o_lstore (pc' := 289) (l' := #[.val (.long z0), .second, .val (.long z2), .second, .val (.ref a0), .val (.int x5), z6, .val (.long (x7 ^^^ x20)), .second, .val (.long x9), .second, .val (.long x11), .second, .val (.long x13), .second, .val (.int x15), .val (.int x16), .val (.int x17), .val (.int x18), z19, .val (.long x20), .second, .val (.int x22)]) X hx (hb hby d2_287) rfl rfl ?_
        refine o_iinc (pc' := 292) (y := (x17 + (1 : Int32))) (l' := #[.val (.long z0), .second, .val (.long z2), .second, .val (.ref a0), .val (.int x5), z6, .val (.long (x7 ^^^ x20)), .second, .val (.long x9), .second, .val (.long x11), .second, .val (.long x13), .second, .val (.int x15), .val (.int x16), .val (.int (x17 + (1 : Int32))), .val (.int x18), z19, .val (.long x20), .second, .val (.int x22)]) X hx (hb hby d2_289) rfl rfl rfl rfl ?_
        refine o_goto (pc' := 47) X hx (hb hby d2_292) (by decide) (by decide) ?_
        exact b2_47_3 (r2_151 := f2_151 n) (q2_151 := s2_151 n) C ih a0 v0 x5 (x7 ^^^ x20) x9 x11 x13 x15 x16 (x17 + (1 : Int32)) X eT Aa0 hz6 (One.val rfl) hz19 (One.val rfl) ((hs.2 c11).2 c24) hK
      · rw [if_pos c24] at hK
        refine o_lload (pc' := 168) X hx (hb hby d2_166) rfl rfl ?_
        refine o_lload (pc' := 170) X hx (hb hby d2_168) rfl rfl ?_
        refine o_ladd (pc' := 171)  X hx (hb hby d2_170) rfl rfl ?_
        refine o_lstore (pc' := 173) (l' := #[.val (.long z0), .second, .val (.long z2), .second, .val (.ref a0), .val (.int x5), z6, .val (.long (x7 + x9)), .second, .val (.long x9), .second, .val (.long x11), .second, .val (.long x13), .second, .val (.int x15), .val (.int x16), .val (.int x17), .val (.int x18), z19, .val (.long x20), .second, .val (.int x22)]) X hx (hb hby d2_171) rfl rfl ?_
        refine o_lload (pc' := 175) X hx (hb hby d2_173) rfl rfl ?_
        refine o_bipush (pc' := 177) (x := (13 : Int32)) X hx (hb hby d2_175) (by decide) rfl ?_
        refine o_callP (W := 0) (pc' := 180) (argsL := [(.long x9), (.int (13 : Int32))]) (rest := []) (st' := [(.long (f4_0 x9 (13 : Int32)))]) X hx hZ eT hown (hw _ (List.mem_of_getElem? (i := 37) rfl)) (hw _ (List.mem_of_getElem? (i := 38) rfl)) (hw _ (List.mem_of_getElem? (i := 39) rfl)) (hw _ (List.mem_of_getElem? (i := 40) rfl)) (by decide) (rm4 l Z ag hw [] x9 (13 : Int32) h) (by decide) (by decide) (by rw [hml]; rfl) pd_1 rfl rfl rfl rfl (hb hby d2_177) rfl rfl rfl (by decide) (by decide) rfl fun T25 X25 e25 => ?_
        refine o_lstore (pc' := 182) (l' := #[.val (.long z0), .second, .val (.long z2), .second, .val (.ref a0), .val (.int x5), z6, .val (.long (x7 + x9)), .second, .val (.long (f4_0 x9 (13 : Int32))), .second, .val (.long x11), .second, .val (.long x13), .second, .val (.int x15), .val (.int x16), .val (.int x17), .val (.int x18), z19, .val (.long x20), .second, .val (.int x22)]) X25 hx (hb hby d2_180) rfl rfl ?_
        refine o_lload (pc' := 184) X25 hx (hb hby d2_182) rfl rfl ?_
        refine o_lload (pc' := 186) X25 hx (hb hby d2_184) rfl rfl ?_
        refine o_lxor (pc' := 187)  X25 hx (hb hby d2_186) rfl rfl ?_
        refine o_lstore (pc' := 189) (l' := #[.val (.long z0), .second, .val (.long z2), .second, .val (.ref a0), .val (.int x5), z6, .val (.long (x7 + x9)), .second, .val (.long ((f4_0 x9 (13 : Int32)) ^^^ (x7 + x9))), .second, .val (.long x11), .second, .val (.long x13), .second, .val (.int x15), .val (.int x16), .val (.int x17), .val (.int x18), z19, .val (.long x20), .second, .val (.int x22)]) X25 hx (hb hby d2_187) rfl rfl ?_
        refine o_lload (pc' := 191) X25 hx (hb hby d2_189) rfl rfl ?_
        refine o_bipush (pc' := 193) (x := (32 : Int32)) X25 hx (hb hby d2_191) (by decide) rfl ?_
        refine o_callP (W := 0) (pc' := 196) (argsL := [(.long (x7 + x9)), (.int (32 : Int32))]) (rest := []) (st' := [(.long (f4_0 (x7 + x9) (32 : Int32)))]) X25 hx hZ e25 hown (hw _ (List.mem_of_getElem? (i := 37) rfl)) (hw _ (List.mem_of_getElem? (i := 38) rfl)) (hw _ (List.mem_of_getElem? (i := 39) rfl)) (hw _ (List.mem_of_getElem? (i := 40) rfl)) (by decide) (rm4 l Z ag hw [] (x7 + x9) (32 : Int32) h) (by decide) (by decide) (by rw [hml]; rfl) pd_1 rfl rfl rfl rfl (hb hby d2_193) rfl rfl rfl (by decide) (by decide) rfl fun T26 X26 e26 => ?_
        refine o_lstore (pc' := 198) (l' := #[.val (.long z0), .second, .val (.long z2), .second, .val (.ref a0), .val (.int x5), z6, .val (.long (f4_0 (x7 + x9) (32 : Int32))), .second, .val (.long ((f4_0 x9 (13 : Int32)) ^^^ (x7 + x9))), .second, .val (.long x11), .second, .val (.long x13), .second, .val (.int x15), .val (.int x16), .val (.int x17), .val (.int x18), z19, .val (.long x20), .second, .val (.int x22)]) X26 hx (hb hby d2_196) rfl rfl ?_
        refine o_lload (pc' := 200) X26 hx (hb hby d2_198) rfl rfl ?_
        refine o_lload (pc' := 202) X26 hx (hb hby d2_200) rfl rfl ?_
        refine o_ladd (pc' := 203)  X26 hx (hb hby d2_202) rfl rfl ?_
        refine o_lstore (pc' := 205) (l' := #[.val (.long z0), .second, .val (.long z2), .second, .val (.ref a0), .val (.int x5), z6, .val (.long (f4_0 (x7 + x9) (32 : Int32))), .second, .val (.long ((f4_0 x9 (13 : Int32)) ^^^ (x7 + x9))), .second, .val (.long (x11 + x13)), .second, .val (.long x13), .second, .val (.int x15), .val (.int x16), .val (.int x17), .val (.int x18), z19, .val (.long x20), .second, .val (.int x22)]) X26 hx (hb hby d2_203) rfl rfl ?_
        refine o_lload (pc' := 207) X26 hx (hb hby d2_205) rfl rfl ?_
        refine o_bipush (pc' := 209) (x := (16 : Int32)) X26 hx (hb hby d2_207) (by decide) rfl ?_
        refine o_callP (W := 0) (pc' := 212) (argsL := [(.long x13), (.int (16 : Int32))]) (rest := []) (st' := [(.long (f4_0 x13 (16 : Int32)))]) X26 hx hZ e26 hown (hw _ (List.mem_of_getElem? (i := 37) rfl)) (hw _ (List.mem_of_getElem? (i := 38) rfl)) (hw _ (List.mem_of_getElem? (i := 39) rfl)) (hw _ (List.mem_of_getElem? (i := 40) rfl)) (by decide) (rm4 l Z ag hw [] x13 (16 : Int32) h) (by decide) (by decide) (by rw [hml]; rfl) pd_1 rfl rfl rfl rfl (hb hby d2_209) rfl rfl rfl (by decide) (by decide) rfl fun T27 X27 e27 => ?_
        refine o_lstore (pc' := 214) (l' := #[.val (.long z0), .second, .val (.long z2), .second, .val (.ref a0), .val (.int x5), z6, .val (.long (f4_0 (x7 + x9) (32 : Int32))), .second, .val (.long ((f4_0 x9 (13 : Int32)) ^^^ (x7 + x9))), .second, .val (.long (x11 + x13)), .second, .val (.long (f4_0 x13 (16 : Int32))), .second, .val (.int x15), .val (.int x16), .val (.int x17), .val (.int x18), z19, .val (.long x20), .second, .val (.int x22)]) X27 hx (hb hby d2_212) rfl rfl ?_
        refine o_lload (pc' := 216) X27 hx (hb hby d2_214) rfl rfl ?_
        refine o_lload (pc' := 218) X27 hx (hb hby d2_216) rfl rfl ?_
        refine o_lxor (pc' := 219)  X27 hx (hb hby d2_218) rfl rfl ?_
        refine o_lstore (pc' := 221) (l' := #[.val (.long z0), .second, .val (.long z2), .second, .val (.ref a0), .val (.int x5), z6, .val (.long (f4_0 (x7 + x9) (32 : Int32))), .second, .val (.long ((f4_0 x9 (13 : Int32)) ^^^ (x7 + x9))), .second, .val (.long (x11 + x13)), .second, .val (.long ((f4_0 x13 (16 : Int32)) ^^^ (x11 + x13))), .second, .val (.int x15), .val (.int x16), .val (.int x17), .val (.int x18), z19, .val (.long x20), .second, .val (.int x22)]) X27 hx (hb hby d2_219) rfl rfl ?_
        refine o_lload (pc' := 223) X27 hx (hb hby d2_221) rfl rfl ?_
        refine o_lload (pc' := 225) X27 hx (hb hby d2_223) rfl rfl ?_
        refine o_ladd (pc' := 226)  X27 hx (hb hby d2_225) rfl rfl ?_
        refine o_lstore (pc' := 228) (l' := #[.val (.long z0), .second, .val (.long z2), .second, .val (.ref a0), .val (.int x5), z6, .val (.long ((f4_0 (x7 + x9) (32 : Int32)) + ((f4_0 x13 (16 : Int32)) ^^^ (x11 + x13)))), .second, .val (.long ((f4_0 x9 (13 : Int32)) ^^^ (x7 + x9))), .second, .val (.long (x11 + x13)), .second, .val (.long ((f4_0 x13 (16 : Int32)) ^^^ (x11 + x13))), .second, .val (.int x15), .val (.int x16), .val (.int x17), .val (.int x18), z19, .val (.long x20), .second, .val (.int x22)]) X27 hx (hb hby d2_226) rfl rfl ?_
        refine o_lload (pc' := 230) X27 hx (hb hby d2_228) rfl rfl ?_
        refine o_bipush (pc' := 232) (x := (21 : Int32)) X27 hx (hb hby d2_230) (by decide) rfl ?_
        refine o_callP (W := 0) (pc' := 235) (argsL := [(.long ((f4_0 x13 (16 : Int32)) ^^^ (x11 + x13))), (.int (21 : Int32))]) (rest := []) (st' := [(.long (f4_0 ((f4_0 x13 (16 : Int32)) ^^^ (x11 + x13)) (21 : Int32)))]) X27 hx hZ e27 hown (hw _ (List.mem_of_getElem? (i := 37) rfl)) (hw _ (List.mem_of_getElem? (i := 38) rfl)) (hw _ (List.mem_of_getElem? (i := 39) rfl)) (hw _ (List.mem_of_getElem? (i := 40) rfl)) (by decide) (rm4 l Z ag hw [] ((f4_0 x13 (16 : Int32)) ^^^ (x11 + x13)) (21 : Int32) h) (by decide) (by decide) (by rw [hml]; rfl) pd_1 rfl rfl rfl rfl (hb hby d2_232) rfl rfl rfl (by decide) (by decide) rfl fun T28 X28 e28 => ?_
        refine o_lstore (pc' := 237) (l' := #[.val (.long z0), .second, .val (.long z2), .second, .val (.ref a0), .val (.int x5), z6, .val (.long ((f4_0 (x7 + x9) (32 : Int32)) + ((f4_0 x13 (16 : Int32)) ^^^ (x11 + x13)))), .second, .val (.long ((f4_0 x9 (13 : Int32)) ^^^ (x7 + x9))), .second, .val (.long (x11 + x13)), .second, .val (.long (f4_0 ((f4_0 x13 (16 : Int32)) ^^^ (x11 + x13)) (21 : Int32))), .second, .val (.int x15), .val (.int x16), .val (.int x17), .val (.int x18), z19, .val (.long x20), .second, .val (.int x22)]) X28 hx (hb hby d2_235) rfl rfl ?_
        refine o_lload (pc' := 239) X28 hx (hb hby d2_237) rfl rfl ?_
        refine o_lload (pc' := 241) X28 hx (hb hby d2_239) rfl rfl ?_
        refine o_lxor (pc' := 242)  X28 hx (hb hby d2_241) rfl rfl ?_
        refine o_lstore (pc' := 244) (l' := #[.val (.long z0), .second, .val (.long z2), .second, .val (.ref a0), .val (.int x5), z6, .val (.long ((f4_0 (x7 + x9) (32 : Int32)) + ((f4_0 x13 (16 : Int32)) ^^^ (x11 + x13)))), .second, .val (.long ((f4_0 x9 (13 : Int32)) ^^^ (x7 + x9))), .second, .val (.long (x11 + x13)), .second, .val (.long ((f4_0 ((f4_0 x13 (16 : Int32)) ^^^ (x11 + x13)) (21 : Int32)) ^^^ ((f4_0 (x7 + x9) (32 : Int32)) + ((f4_0 x13 (16 : Int32)) ^^^ (x11 + x13))))), .second, .val (.int x15), .val (.int x16), .val (.int x17), .val (.int x18), z19, .val (.long x20), .second, .val (.int x22)]) X28 hx (hb hby d2_242) rfl rfl ?_
        refine o_lload (pc' := 246) X28 hx (hb hby d2_244) rfl rfl ?_
        refine o_lload (pc' := 248) X28 hx (hb hby d2_246) rfl rfl ?_
        refine o_ladd (pc' := 249)  X28 hx (hb hby d2_248) rfl rfl ?_
        refine o_lstore (pc' := 251) (l' := #[.val (.long z0), .second, .val (.long z2), .second, .val (.ref a0), .val (.int x5), z6, .val (.long ((f4_0 (x7 + x9) (32 : Int32)) + ((f4_0 x13 (16 : Int32)) ^^^ (x11 + x13)))), .second, .val (.long ((f4_0 x9 (13 : Int32)) ^^^ (x7 + x9))), .second, .val (.long ((x11 + x13) + ((f4_0 x9 (13 : Int32)) ^^^ (x7 + x9)))), .second, .val (.long ((f4_0 ((f4_0 x13 (16 : Int32)) ^^^ (x11 + x13)) (21 : Int32)) ^^^ ((f4_0 (x7 + x9) (32 : Int32)) + ((f4_0 x13 (16 : Int32)) ^^^ (x11 + x13))))), .second, .val (.int x15), .val (.int x16), .val (.int x17), .val (.int x18), z19, .val (.long x20), .second, .val (.int x22)]) X28 hx (hb hby d2_249) rfl rfl ?_
        refine o_lload (pc' := 253) X28 hx (hb hby d2_251) rfl rfl ?_
        refine o_bipush (pc' := 255) (x := (17 : Int32)) X28 hx (hb hby d2_253) (by decide) rfl ?_
        refine o_callP (W := 0) (pc' := 258) (argsL := [(.long ((f4_0 x9 (13 : Int32)) ^^^ (x7 + x9))), (.int (17 : Int32))]) (rest := []) (st' := [(.long (f4_0 ((f4_0 x9 (13 : Int32)) ^^^ (x7 + x9)) (17 : Int32)))]) X28 hx hZ e28 hown (hw _ (List.mem_of_getElem? (i := 37) rfl)) (hw _ (List.mem_of_getElem? (i := 38) rfl)) (hw _ (List.mem_of_getElem? (i := 39) rfl)) (hw _ (List.mem_of_getElem? (i := 40) rfl)) (by decide) (rm4 l Z ag hw [] ((f4_0 x9 (13 : Int32)) ^^^ (x7 + x9)) (17 : Int32) h) (by decide) (by decide) (by rw [hml]; rfl) pd_1 rfl rfl rfl rfl (hb hby d2_255) rfl rfl rfl (by decide) (by decide) rfl fun T29 X29 e29 => ?_
        refine o_lstore (pc' := 260) (l' := #[.val (.long z0), .second, .val (.long z2), .second, .val (.ref a0), .val (.int x5), z6, .val (.long ((f4_0 (x7 + x9) (32 : Int32)) + ((f4_0 x13 (16 : Int32)) ^^^ (x11 + x13)))), .second, .val (.long (f4_0 ((f4_0 x9 (13 : Int32)) ^^^ (x7 + x9)) (17 : Int32))), .second, .val (.long ((x11 + x13) + ((f4_0 x9 (13 : Int32)) ^^^ (x7 + x9)))), .second, .val (.long ((f4_0 ((f4_0 x13 (16 : Int32)) ^^^ (x11 + x13)) (21 : Int32)) ^^^ ((f4_0 (x7 + x9) (32 : Int32)) + ((f4_0 x13 (16 : Int32)) ^^^ (x11 + x13))))), .second, .val (.int x15), .val (.int x16), .val (.int x17), .val (.int x18), z19, .val (.long x20), .second, .val (.int x22)]) X29 hx (hb hby d2_258) rfl rfl ?_
        refine o_lload (pc' := 262) X29 hx (hb hby d2_260) rfl rfl ?_
        refine o_lload (pc' := 264) X29 hx (hb hby d2_262) rfl rfl ?_
        refine o_lxor (pc' := 265)  X29 hx (hb hby d2_264) rfl rfl ?_
        refine o_lstore (pc' := 267) (l' := #[.val (.long z0), .second, .val (.long z2), .second, .val (.ref a0), .val (.int x5), z6, .val (.long ((f4_0 (x7 + x9) (32 : Int32)) + ((f4_0 x13 (16 : Int32)) ^^^ (x11 + x13)))), .second, .val (.long ((f4_0 ((f4_0 x9 (13 : Int32)) ^^^ (x7 + x9)) (17 : Int32)) ^^^ ((x11 + x13) + ((f4_0 x9 (13 : Int32)) ^^^ (x7 + x9))))), .second, .val (.long ((x11 + x13) + ((f4_0 x9 (13 : Int32)) ^^^ (x7 + x9)))), .second, .val (.long ((f4_0 ((f4_0 x13 (16 : Int32)) ^^^ (x11 + x13)) (21 : Int32)) ^^^ ((f4_0 (x7 + x9) (32 : Int32)) + ((f4_0 x13 (16 : Int32)) ^^^ (x11 + x13))))), .second, .val (.int x15), .val (.int x16), .val (.int x17), .val (.int x18), z19, .val (.long x20), .second, .val (.int x22)]) X29 hx (hb hby d2_265) rfl rfl ?_
        refine o_lload (pc' := 269) X29 hx (hb hby d2_267) rfl rfl ?_
        refine o_bipush (pc' := 271) (x := (32 : Int32)) X29 hx (hb hby d2_269) (by decide) rfl ?_
        refine o_callP (W := 0) (pc' := 274) (argsL := [(.long ((x11 + x13) + ((f4_0 x9 (13 : Int32)) ^^^ (x7 + x9)))), (.int (32 : Int32))]) (rest := []) (st' := [(.long (f4_0 ((x11 + x13) + ((f4_0 x9 (13 : Int32)) ^^^ (x7 + x9))) (32 : Int32)))]) X29 hx hZ e29 hown (hw _ (List.mem_of_getElem? (i := 37) rfl)) (hw _ (List.mem_of_getElem? (i := 38) rfl)) (hw _ (List.mem_of_getElem? (i := 39) rfl)) (hw _ (List.mem_of_getElem? (i := 40) rfl)) (by decide) (rm4 l Z ag hw [] ((x11 + x13) + ((f4_0 x9 (13 : Int32)) ^^^ (x7 + x9))) (32 : Int32) h) (by decide) (by decide) (by rw [hml]; rfl) pd_1 rfl rfl rfl rfl (hb hby d2_271) rfl rfl rfl (by decide) (by decide) rfl fun T30 X30 e30 => ?_
        refine o_lstore (pc' := 276) (l' := #[.val (.long z0), .second, .val (.long z2), .second, .val (.ref a0), .val (.int x5), z6, .val (.long ((f4_0 (x7 + x9) (32 : Int32)) + ((f4_0 x13 (16 : Int32)) ^^^ (x11 + x13)))), .second, .val (.long ((f4_0 ((f4_0 x9 (13 : Int32)) ^^^ (x7 + x9)) (17 : Int32)) ^^^ ((x11 + x13) + ((f4_0 x9 (13 : Int32)) ^^^ (x7 + x9))))), .second, .val (.long (f4_0 ((x11 + x13) + ((f4_0 x9 (13 : Int32)) ^^^ (x7 + x9))) (32 : Int32))), .second, .val (.long ((f4_0 ((f4_0 x13 (16 : Int32)) ^^^ (x11 + x13)) (21 : Int32)) ^^^ ((f4_0 (x7 + x9) (32 : Int32)) + ((f4_0 x13 (16 : Int32)) ^^^ (x11 + x13))))), .second, .val (.int x15), .val (.int x16), .val (.int x17), .val (.int x18), z19, .val (.long x20), .second, .val (.int x22)]) X30 hx (hb hby d2_274) rfl rfl ?_
        refine o_iinc (pc' := 279) (y := (x22 + (1 : Int32))) (l' := #[.val (.long z0), .second, .val (.long z2), .second, .val (.ref a0), .val (.int x5), z6, .val (.long ((f4_0 (x7 + x9) (32 : Int32)) + ((f4_0 x13 (16 : Int32)) ^^^ (x11 + x13)))), .second, .val (.long ((f4_0 ((f4_0 x9 (13 : Int32)) ^^^ (x7 + x9)) (17 : Int32)) ^^^ ((x11 + x13) + ((f4_0 x9 (13 : Int32)) ^^^ (x7 + x9))))), .second, .val (.long (f4_0 ((x11 + x13) + ((f4_0 x9 (13 : Int32)) ^^^ (x7 + x9))) (32 : Int32))), .second, .val (.long ((f4_0 ((f4_0 x13 (16 : Int32)) ^^^ (x11 + x13)) (21 : Int32)) ^^^ ((f4_0 (x7 + x9) (32 : Int32)) + ((f4_0 x13 (16 : Int32)) ^^^ (x11 + x13))))), .second, .val (.int x15), .val (.int x16), .val (.int x17), .val (.int x18), z19, .val (.long x20), .second, .val (.int (x22 + (1 : Int32)))]) X30 hx (hb hby d2_276) rfl rfl rfl rfl ?_
        refine o_goto (pc' := 151) X30 hx (hb hby d2_279) (by decide) (by decide) ?_
        exact ih a0 v0 x5 ((f4_0 (x7 + x9) (32 : Int32)) + ((f4_0 x13 (16 : Int32)) ^^^ (x11 + x13))) ((f4_0 ((f4_0 x9 (13 : Int32)) ^^^ (x7 + x9)) (17 : Int32)) ^^^ ((x11 + x13) + ((f4_0 x9 (13 : Int32)) ^^^ (x7 + x9)))) (f4_0 ((x11 + x13) + ((f4_0 x9 (13 : Int32)) ^^^ (x7 + x9))) (32 : Int32)) ((f4_0 ((f4_0 x13 (16 : Int32)) ^^^ (x11 + x13)) (21 : Int32)) ^^^ ((f4_0 (x7 + x9) (32 : Int32)) + ((f4_0 x13 (16 : Int32)) ^^^ (x11 + x13)))) x15 x16 x17 x18 x20 (x22 + (1 : Int32)) X30 e30 Aa0 hz6 hz19 ((hs.2 c11).1 c24) hK

def f2_47 (v0 : List Int32) (x5 : Int32) (x7 : Int64) (x9 : Int64) (x11 : Int64) (x13 : Int64) (x15 : Int32) (x16 : Int32) (x17 : Int32) : Int64 := (if x16 < x17 then (((x7 ^^^ x9) ^^^ x11) ^^^ x13) else (if x17 = x16 then (f2_151 64 v0 x5 x7 x9 (x11 ^^^ (255 : Int64)) (x13 ^^^ (0 : Int64)) x15 x16 x17 (1 : Int32) (0 : Int64) (0 : Int32)) else (if x17 < (x16 - (1 : Int32)) then (f2_151 64 v0 x5 x7 x9 x11 (x13 ^^^ (f3_0 v0 (x5 + (x17 * (8 : Int32))) (8 : Int32))) x15 x16 x17 (0 : Int32) (f3_0 v0 (x5 + (x17 * (8 : Int32))) (8 : Int32)) (0 : Int32)) else (f2_151 64 v0 x5 x7 x9 x11 (x13 ^^^ ((own_lshl x15.toInt64 (56 : Int32)) ||| (f3_0 v0 (x5 + (x17 * (8 : Int32))) (own_rem x15 (8 : Int32))))) x15 x16 x17 (0 : Int32) ((own_lshl x15.toInt64 (56 : Int32)) ||| (f3_0 v0 (x5 + (x17 * (8 : Int32))) (own_rem x15 (8 : Int32)))) (0 : Int32)))))
def s2_47 (v0 : List Int32) (x5 : Int32) (x7 : Int64) (x9 : Int64) (x11 : Int64) (x13 : Int64) (x15 : Int32) (x16 : Int32) (x17 : Int32) : Prop := ((x16 < x17 → True) ∧ (¬ (x16 < x17) → ((x17 = x16 → s2_151 64 v0 x5 x7 x9 (x11 ^^^ (255 : Int64)) (x13 ^^^ (0 : Int64)) x15 x16 x17 (1 : Int32) (0 : Int64) (0 : Int32)) ∧ (¬ (x17 = x16) → ((x17 < (x16 - (1 : Int32)) → ((s3_0 v0 (x5 + (x17 * (8 : Int32))) (8 : Int32)) ∧ s2_151 64 v0 x5 x7 x9 x11 (x13 ^^^ (f3_0 v0 (x5 + (x17 * (8 : Int32))) (8 : Int32))) x15 x16 x17 (0 : Int32) (f3_0 v0 (x5 + (x17 * (8 : Int32))) (8 : Int32)) (0 : Int32))) ∧ (¬ (x17 < (x16 - (1 : Int32))) → ((s3_0 v0 (x5 + (x17 * (8 : Int32))) (own_rem x15 (8 : Int32))) ∧ s2_151 64 v0 x5 x7 x9 x11 (x13 ^^^ ((own_lshl x15.toInt64 (56 : Int32)) ||| (f3_0 v0 (x5 + (x17 * (8 : Int32))) (own_rem x15 (8 : Int32))))) x15 x16 x17 (0 : Int32) ((own_lshl x15.toInt64 (56 : Int32)) ||| (f3_0 v0 (x5 + (x17 * (8 : Int32))) (own_rem x15 (8 : Int32)))) (0 : Int32))))))))
set_option maxRecDepth 65536 in
set_option maxHeartbeats 40000000 in
theorem b2_47 (C : own_Cx p s m meth c Z ag prog_73_method_2_code 23 "com/example/fairtally/fairtally/ledger/csv/SipHash" (some .long) "of") {T : State} {h : Heap} {z0 : Int64} {z2 : Int64} {z6 : Slot} {z18 : Slot} {z19 : Slot} {z22 : Slot} (a0 : Addr) (v0 : List Int32) (x5 : Int32) (x7 : Int64) (x9 : Int64) (x11 : Int64) (x13 : Int64) (x15 : Int32) (x16 : Int32) (x17 : Int32) (X : Stand p l e R2 s m args below meth c T [] 0 0) (eT : T.heap = h) (Aa0 : own_AI Z h a0 .byte v0) (hz6 : One z6) (hz18 : One z18) (hz19 : One z19) (hz22 : One z22) (hs : s2_47 v0 x5 x7 x9 x11 x13 x15 x16 x17) (hK : K (some (.long (f2_47 v0 x5 x7 x9 x11 x13 x15 x16 x17))) h []) : own_Go p e below (own_Q s K cc2 ss2) T (mkF m 47 #[.val (.long z0), .second, .val (.long z2), .second, .val (.ref a0), .val (.int x5), z6, .val (.long x7), .second, .val (.long x9), .second, .val (.long x11), .second, .val (.long x13), .second, .val (.int x15), .val (.int x16), .val (.int x17), z18, z19, .unset, .unset, z22] []) := by
  obtain ⟨hx, hZ, hw, hby, hml, hown, hret, hlk, hnm⟩ := id C
  unfold f2_47 at hK
  unfold s2_47 at hs
  refine o_iload (pc' := 49) X hx (hb hby d2_47) rfl rfl ?_
  refine o_iload (pc' := 51) X hx (hb hby d2_49) rfl rfl ?_
  refine o_icP (P := x16 < x17) (pc1 := 295) (pc2 := 54) X hx XT.ii_gt_t XT.ii_gt_f (hb hby d2_51) (by decide) (by decide) rfl (fun c7 => ?_) (fun c7 => ?_)
  · rw [if_pos c7] at hK
    refine o_lload (pc' := 297) X hx (hb hby d2_295) rfl rfl ?_
    refine o_lload (pc' := 299) X hx (hb hby d2_297) rfl rfl ?_
    refine o_lxor (pc' := 300)  X hx (hb hby d2_299) rfl rfl ?_
    refine o_lload (pc' := 302) X hx (hb hby d2_300) rfl rfl ?_
    refine o_lxor (pc' := 303)  X hx (hb hby d2_302) rfl rfl ?_
    refine o_lload (pc' := 305) X hx (hb hby d2_303) rfl rfl ?_
    refine o_lxor (pc' := 306)  X hx (hb hby d2_305) rfl rfl ?_
    exact o_retL X hx hret hlk (hb hby d2_306) (by decide) (by decide) eT (hK)
  · rw [if_neg c7] at hK
    refine o_iload (pc' := 56) X hx (hb hby d2_54) rfl rfl ?_
    refine o_iload (pc' := 58) X hx (hb hby d2_56) rfl rfl ?_
    refine o_icN (P := x17 = x16) (pc1 := 65) (pc2 := 61) X hx XT.ii_ne_f XT.ii_ne_t (hb hby d2_58) (by decide) (by decide) rfl (fun c8 => ?_) (fun c8 => ?_)
    · rw [if_neg c8] at hK
      refine o_iconst (pc' := 66) (x := (0 : Int32)) X hx (hb hby d2_65) (by decide) rfl ?_
      refine o_istoreS (pc' := 68) (l' := #[.val (.long z0), .second, .val (.long z2), .second, .val (.ref a0), .val (.int x5), z6, .val (.long x7), .second, .val (.long x9), .second, .val (.long x11), .second, .val (.long x13), .second, .val (.int x15), .val (.int x16), .val (.int x17), .val (.int (0 : Int32)), z19, .unset, .unset, z22]) X hx (hb hby d2_66) rfl hz18 rfl rfl ?_
      refine o_iload (pc' := 70) X hx (hb hby d2_68) rfl rfl ?_
      refine o_iload (pc' := 72) X hx (hb hby d2_70) rfl rfl ?_
      refine o_bipush (pc' := 74) (x := (8 : Int32)) X hx (hb hby d2_72) (by decide) rfl ?_
      refine o_imul (pc' := 75)  X hx (hb hby d2_74) rfl rfl ?_
      refine o_iadd (pc' := 76)  X hx (hb hby d2_75) rfl rfl ?_
      refine o_istoreS (pc' := 78) (l' := #[.val (.long z0), .second, .val (.long z2), .second, .val (.ref a0), .val (.int x5), z6, .val (.long x7), .second, .val (.long x9), .second, .val (.long x11), .second, .val (.long x13), .second, .val (.int x15), .val (.int x16), .val (.int x17), .val (.int (0 : Int32)), .val (.int (x5 + (x17 * (8 : Int32)))), .unset, .unset, z22]) X hx (hb hby d2_76) rfl hz19 rfl rfl ?_
      refine o_lconst (pc' := 79) (u := (0 : Int64)) X hx (hb hby d2_78) (by decide) rfl ?_
      refine o_lstore (pc' := 81) (l' := #[.val (.long z0), .second, .val (.long z2), .second, .val (.ref a0), .val (.int x5), z6, .val (.long x7), .second, .val (.long x9), .second, .val (.long x11), .second, .val (.long x13), .second, .val (.int x15), .val (.int x16), .val (.int x17), .val (.int (0 : Int32)), .val (.int (x5 + (x17 * (8 : Int32)))), .val (.long (0 : Int64)), .second, z22]) X hx (hb hby d2_79) rfl rfl ?_
      refine o_iload (pc' := 83) X hx (hb hby d2_81) rfl rfl ?_
      refine o_ifY (pc' := 97) X hx (by decide) (hb hby d2_83) (by decide) (by decide) ?_
      refine o_iload (pc' := 99) X hx (hb hby d2_97) rfl rfl ?_
      refine o_iload (pc' := 101) X hx (hb hby d2_99) rfl rfl ?_
      refine o_iconst (pc' := 102) (x := (1 : Int32)) X hx (hb hby d2_101) (by decide) rfl ?_
      refine o_isub (pc' := 103)  X hx (hb hby d2_102) rfl rfl ?_
      refine o_icN (P := x17 < (x16 - (1 : Int32))) (pc1 := 120) (pc2 := 106) X hx XT.ii_ge_f XT.ii_ge_t (hb hby d2_103) (by decide) (by decide) rfl (fun c9 => ?_) (fun c9 => ?_)
      · rw [if_neg c9] at hK
        refine o_iload (pc' := 122) X hx (hb hby d2_120) rfl rfl ?_
        refine o_i2l (pc' := 123)  X hx (hb hby d2_122) rfl rfl ?_
        refine o_bipush (pc' := 125) (x := (56 : Int32)) X hx (hb hby d2_123) (by decide) rfl ?_
        refine o_lshl (pc' := 126)  X hx (hb hby d2_125) rfl rfl ?_
        refine o_aload (pc' := 128) X hx (hb hby d2_126) rfl rfl rfl ?_
        refine o_iload (pc' := 130) X hx (hb hby d2_128) rfl rfl ?_
        refine o_iload (pc' := 132) X hx (hb hby d2_130) rfl rfl ?_
        refine o_bipush (pc' := 134) (x := (8 : Int32)) X hx (hb hby d2_132) (by decide) rfl ?_
        refine o_irem (pc' := 135)  X hx (hb hby d2_134) rfl (by decide) rfl ?_
        refine o_callP (W := 2) (pc' := 138) (argsL := [(.ref a0), (.int (x5 + (x17 * (8 : Int32)))), (.int (own_rem x15 (8 : Int32)))]) (rest := [(.long (own_lshl x15.toInt64 (56 : Int32)))]) (st' := [(.long (f3_0 v0 (x5 + (x17 * (8 : Int32))) (own_rem x15 (8 : Int32)))), (.long (own_lshl x15.toInt64 (56 : Int32)))]) X hx hZ eT hown (hw _ (List.mem_of_getElem? (i := 34) rfl)) (hw _ (List.mem_of_getElem? (i := 35) rfl)) (hw _ (List.mem_of_getElem? (i := 28) rfl)) (hw _ (List.mem_of_getElem? (i := 36) rfl)) (by decide) (rm3 l Z ag hw [] a0 v0 (x5 + (x17 * (8 : Int32))) (own_rem x15 (8 : Int32)) h Aa0 (((hs.2 c7).2 c8).2 c9).1) (by decide) (by decide) (by rw [hml]; rfl) pd_0 rfl rfl rfl rfl (hb hby d2_135) rfl rfl rfl (by decide) (by decide) rfl fun T10 X10 e10 => ?_
        refine o_lor (pc' := 139)  X10 hx (hb hby d2_138) rfl rfl ?_
        refine o_lstore (pc' := 141) (l' := #[.val (.long z0), .second, .val (.long z2), .second, .val (.ref a0), .val (.int x5), z6, .val (.long x7), .second, .val (.long x9), .second, .val (.long x11), .second, .val (.long x13), .second, .val (.int x15), .val (.int x16), .val (.int x17), .val (.int (0 : Int32)), .val (.int (x5 + (x17 * (8 : Int32)))), .val (.long ((own_lshl x15.toInt64 (56 : Int32)) ||| (f3_0 v0 (x5 + (x17 * (8 : Int32))) (own_rem x15 (8 : Int32))))), .second, z22]) X10 hx (hb hby d2_139) rfl rfl ?_
        refine o_lload (pc' := 143) X10 hx (hb hby d2_141) rfl rfl ?_
        refine o_lload (pc' := 145) X10 hx (hb hby d2_143) rfl rfl ?_
        refine o_lxor (pc' := 146)  X10 hx (hb hby d2_145) rfl rfl ?_
        refine o_lstore (pc' := 148) (l' := #[.val (.long z0), .second, .val (.long z2), .second, .val (.ref a0), .val (.int x5), z6, .val (.long x7), .second, .val (.long x9), .second, .val (.long x11), .second, .val (.long (x13 ^^^ ((own_lshl x15.toInt64 (56 : Int32)) ||| (f3_0 v0 (x5 + (x17 * (8 : Int32))) (own_rem x15 (8 : Int32)))))), .second, .val (.int x15), .val (.int x16), .val (.int x17), .val (.int (0 : Int32)), .val (.int (x5 + (x17 * (8 : Int32)))), .val (.long ((own_lshl x15.toInt64 (56 : Int32)) ||| (f3_0 v0 (x5 + (x17 * (8 : Int32))) (own_rem x15 (8 : Int32))))), .second, z22]) X10 hx (hb hby d2_146) rfl rfl ?_
        refine o_iconst (pc' := 149) (x := (0 : Int32)) X10 hx (hb hby d2_148) (by decide) rfl ?_
        refine o_istoreS (pc' := 151) (l' := #[.val (.long z0), .second, .val (.long z2), .second, .val (.ref a0), .val (.int x5), z6, .val (.long x7), .second, .val (.long x9), .second, .val (.long x11), .second, .val (.long (x13 ^^^ ((own_lshl x15.toInt64 (56 : Int32)) ||| (f3_0 v0 (x5 + (x17 * (8 : Int32))) (own_rem x15 (8 : Int32)))))), .second, .val (.int x15), .val (.int x16), .val (.int x17), .val (.int (0 : Int32)), .val (.int (x5 + (x17 * (8 : Int32)))), .val (.long ((own_lshl x15.toInt64 (56 : Int32)) ||| (f3_0 v0 (x5 + (x17 * (8 : Int32))) (own_rem x15 (8 : Int32))))), .second, .val (.int (0 : Int32))]) X10 hx (hb hby d2_149) rfl hz22 rfl rfl ?_
        exact b2_151 C 64 a0 v0 x5 x7 x9 x11 (x13 ^^^ ((own_lshl x15.toInt64 (56 : Int32)) ||| (f3_0 v0 (x5 + (x17 * (8 : Int32))) (own_rem x15 (8 : Int32))))) x15 x16 x17 (0 : Int32) ((own_lshl x15.toInt64 (56 : Int32)) ||| (f3_0 v0 (x5 + (x17 * (8 : Int32))) (own_rem x15 (8 : Int32)))) (0 : Int32) X10 e10 Aa0 hz6 (One.val rfl) (((hs.2 c7).2 c8).2 c9).2 hK
      · rw [if_pos c9] at hK
        refine o_aload (pc' := 108) X hx (hb hby d2_106) rfl rfl rfl ?_
        refine o_iload (pc' := 110) X hx (hb hby d2_108) rfl rfl ?_
        refine o_bipush (pc' := 112) (x := (8 : Int32)) X hx (hb hby d2_110) (by decide) rfl ?_
        refine o_callP (W := 0) (pc' := 115) (argsL := [(.ref a0), (.int (x5 + (x17 * (8 : Int32)))), (.int (8 : Int32))]) (rest := []) (st' := [(.long (f3_0 v0 (x5 + (x17 * (8 : Int32))) (8 : Int32)))]) X hx hZ eT hown (hw _ (List.mem_of_getElem? (i := 34) rfl)) (hw _ (List.mem_of_getElem? (i := 35) rfl)) (hw _ (List.mem_of_getElem? (i := 28) rfl)) (hw _ (List.mem_of_getElem? (i := 36) rfl)) (by decide) (rm3 l Z ag hw [] a0 v0 (x5 + (x17 * (8 : Int32))) (8 : Int32) h Aa0 (((hs.2 c7).2 c8).1 c9).1) (by decide) (by decide) (by rw [hml]; rfl) pd_0 rfl rfl rfl rfl (hb hby d2_112) rfl rfl rfl (by decide) (by decide) rfl fun T31 X31 e31 => ?_
        refine o_lstore (pc' := 117) (l' := #[.val (.long z0), .second, .val (.long z2), .second, .val (.ref a0), .val (.int x5), z6, .val (.long x7), .second, .val (.long x9), .second, .val (.long x11), .second, .val (.long x13), .second, .val (.int x15), .val (.int x16), .val (.int x17), .val (.int (0 : Int32)), .val (.int (x5 + (x17 * (8 : Int32)))), .val (.long (f3_0 v0 (x5 + (x17 * (8 : Int32))) (8 : Int32))), .second, z22]) X31 hx (hb hby d2_115) rfl rfl ?_
        refine o_goto (pc' := 141) X31 hx (hb hby d2_117) (by decide) (by decide) ?_
        refine o_lload (pc' := 143) X31 hx (hb hby d2_141) rfl rfl ?_
        refine o_lload (pc' := 145) X31 hx (hb hby d2_143) rfl rfl ?_
        refine o_lxor (pc' := 146)  X31 hx (hb hby d2_145) rfl rfl ?_
        refine o_lstore (pc' := 148) (l' := #[.val (.long z0), .second, .val (.long z2), .second, .val (.ref a0), .val (.int x5), z6, .val (.long x7), .second, .val (.long x9), .second, .val (.long x11), .second, .val (.long (x13 ^^^ (f3_0 v0 (x5 + (x17 * (8 : Int32))) (8 : Int32)))), .second, .val (.int x15), .val (.int x16), .val (.int x17), .val (.int (0 : Int32)), .val (.int (x5 + (x17 * (8 : Int32)))), .val (.long (f3_0 v0 (x5 + (x17 * (8 : Int32))) (8 : Int32))), .second, z22]) X31 hx (hb hby d2_146) rfl rfl ?_
        refine o_iconst (pc' := 149) (x := (0 : Int32)) X31 hx (hb hby d2_148) (by decide) rfl ?_
        refine o_istoreS (pc' := 151) (l' := #[.val (.long z0), .second, .val (.long z2), .second, .val (.ref a0), .val (.int x5), z6, .val (.long x7), .second, .val (.long x9), .second, .val (.long x11), .second, .val (.long (x13 ^^^ (f3_0 v0 (x5 + (x17 * (8 : Int32))) (8 : Int32)))), .second, .val (.int x15), .val (.int x16), .val (.int x17), .val (.int (0 : Int32)), .val (.int (x5 + (x17 * (8 : Int32)))), .val (.long (f3_0 v0 (x5 + (x17 * (8 : Int32))) (8 : Int32))), .second, .val (.int (0 : Int32))]) X31 hx (hb hby d2_149) rfl hz22 rfl rfl ?_
        exact b2_151 C 64 a0 v0 x5 x7 x9 x11 (x13 ^^^ (f3_0 v0 (x5 + (x17 * (8 : Int32))) (8 : Int32))) x15 x16 x17 (0 : Int32) (f3_0 v0 (x5 + (x17 * (8 : Int32))) (8 : Int32)) (0 : Int32) X31 e31 Aa0 hz6 (One.val rfl) (((hs.2 c7).2 c8).1 c9).2 hK
    · rw [if_pos c8] at hK
      refine o_iconst (pc' := 62) (x := (1 : Int32)) X hx (hb hby d2_61) (by decide) rfl ?_
      refine o_goto (pc' := 66) X hx (hb hby d2_62) (by decide) (by decide) ?_
      refine o_istoreS (pc' := 68) (l' := #[.val (.long z0), .second, .val (.long z2), .second, .val (.ref a0), .val (.int x5), z6, .val (.long x7), .second, .val (.long x9), .second, .val (.long x11), .second, .val (.long x13), .second, .val (.int x15), .val (.int x16), .val (.int x17), .val (.int (1 : Int32)), z19, .unset, .unset, z22]) X hx (hb hby d2_66) rfl hz18 rfl rfl ?_
      refine o_iload (pc' := 70) X hx (hb hby d2_68) rfl rfl ?_
      refine o_iload (pc' := 72) X hx (hb hby d2_70) rfl rfl ?_
      refine o_bipush (pc' := 74) (x := (8 : Int32)) X hx (hb hby d2_72) (by decide) rfl ?_
      refine o_imul (pc' := 75)  X hx (hb hby d2_74) rfl rfl ?_
      refine o_iadd (pc' := 76)  X hx (hb hby d2_75) rfl rfl ?_
      refine o_istoreS (pc' := 78) (l' := #[.val (.long z0), .second, .val (.long z2), .second, .val (.ref a0), .val (.int x5), z6, .val (.long x7), .second, .val (.long x9), .second, .val (.long x11), .second, .val (.long x13), .second, .val (.int x15), .val (.int x16), .val (.int x17), .val (.int (1 : Int32)), .val (.int (x5 + (x17 * (8 : Int32)))), .unset, .unset, z22]) X hx (hb hby d2_76) rfl hz19 rfl rfl ?_
      refine o_lconst (pc' := 79) (u := (0 : Int64)) X hx (hb hby d2_78) (by decide) rfl ?_
      refine o_lstore (pc' := 81) (l' := #[.val (.long z0), .second, .val (.long z2), .second, .val (.ref a0), .val (.int x5), z6, .val (.long x7), .second, .val (.long x9), .second, .val (.long x11), .second, .val (.long x13), .second, .val (.int x15), .val (.int x16), .val (.int x17), .val (.int (1 : Int32)), .val (.int (x5 + (x17 * (8 : Int32)))), .val (.long (0 : Int64)), .second, z22]) X hx (hb hby d2_79) rfl rfl ?_
      refine o_iload (pc' := 83) X hx (hb hby d2_81) rfl rfl ?_
      refine o_ifX (pc' := 86) X hx (by decide) (hb hby d2_83) rfl ?_
      refine o_lload (pc' := 88) X hx (hb hby d2_86) rfl rfl ?_
      refine o_ldcL (pc' := 91) X hx hZ hown (hw _ (List.mem_of_getElem? (i := 41) rfl)) (hb hby d2_88) rfl ?_
      refine o_lxor (pc' := 92)  X hx (hb hby d2_91) rfl rfl ?_
      refine o_lstore (pc' := 94) (l' := #[.val (.long z0), .second, .val (.long z2), .second, .val (.ref a0), .val (.int x5), z6, .val (.long x7), .second, .val (.long x9), .second, .val (.long (x11 ^^^ (255 : Int64))), .second, .val (.long x13), .second, .val (.int x15), .val (.int x16), .val (.int x17), .val (.int (1 : Int32)), .val (.int (x5 + (x17 * (8 : Int32)))), .val (.long (0 : Int64)), .second, z22]) X hx (hb hby d2_92) rfl rfl ?_
      refine o_goto (pc' := 141) X hx (hb hby d2_94) (by decide) (by decide) ?_
      refine o_lload (pc' := 143) X hx (hb hby d2_141) rfl rfl ?_
      refine o_lload (pc' := 145) X hx (hb hby d2_143) rfl rfl ?_
      refine o_lxor (pc' := 146)  X hx (hb hby d2_145) rfl rfl ?_
      refine o_lstore (pc' := 148) (l' := #[.val (.long z0), .second, .val (.long z2), .second, .val (.ref a0), .val (.int x5), z6, .val (.long x7), .second, .val (.long x9), .second, .val (.long (x11 ^^^ (255 : Int64))), .second, .val (.long (x13 ^^^ (0 : Int64))), .second, .val (.int x15), .val (.int x16), .val (.int x17), .val (.int (1 : Int32)), .val (.int (x5 + (x17 * (8 : Int32)))), .val (.long (0 : Int64)), .second, z22]) X hx (hb hby d2_146) rfl rfl ?_
      refine o_iconst (pc' := 149) (x := (0 : Int32)) X hx (hb hby d2_148) (by decide) rfl ?_
      refine o_istoreS (pc' := 151) (l' := #[.val (.long z0), .second, .val (.long z2), .second, .val (.ref a0), .val (.int x5), z6, .val (.long x7), .second, .val (.long x9), .second, .val (.long (x11 ^^^ (255 : Int64))), .second, .val (.long (x13 ^^^ (0 : Int64))), .second, .val (.int x15), .val (.int x16), .val (.int x17), .val (.int (1 : Int32)), .val (.int (x5 + (x17 * (8 : Int32)))), .val (.long (0 : Int64)), .second, .val (.int (0 : Int32))]) X hx (hb hby d2_149) rfl hz22 rfl rfl ?_
      exact b2_151 C 64 a0 v0 x5 x7 x9 (x11 ^^^ (255 : Int64)) (x13 ^^^ (0 : Int64)) x15 x16 x17 (1 : Int32) (0 : Int64) (0 : Int32) X eT Aa0 hz6 (One.val rfl) ((hs.2 c7).1 c8) hK

def f2_0 (q0 : Int64) (q1 : Int64) (v2 : List Int32) (p3 : Int32) (p4 : Int32) : Int64 := (f2_47 v2 p3 (q0 ^^^ (8317987319222330741 : Int64)) (q1 ^^^ (7237128888997146477 : Int64)) (q0 ^^^ (7816392313619706465 : Int64)) (q1 ^^^ (8387220255154660723 : Int64)) (p4 - p3) (((p4 - p3) / (8 : Int32)) + (1 : Int32)) (0 : Int32))
def s2_0 (q0 : Int64) (q1 : Int64) (v2 : List Int32) (p3 : Int32) (p4 : Int32) : Prop := s2_47 v2 p3 (q0 ^^^ (8317987319222330741 : Int64)) (q1 ^^^ (7237128888997146477 : Int64)) (q0 ^^^ (7816392313619706465 : Int64)) (q1 ^^^ (8387220255154660723 : Int64)) (p4 - p3) (((p4 - p3) / (8 : Int32)) + (1 : Int32)) (0 : Int32)
set_option maxRecDepth 65536 in
set_option maxHeartbeats 40000000 in
theorem b2_0 (C : own_Cx p s m meth c Z ag prog_73_method_2_code 23 "com/example/fairtally/fairtally/ledger/csv/SipHash" (some .long) "of") {T : State} {h : Heap} (q0 : Int64) (q1 : Int64) (a2 : Addr) (v2 : List Int32) (p3 : Int32) (p4 : Int32) (X : Stand p l e R2 s m args below meth c T [] 0 0) (eT : T.heap = h) (Aa2 : own_AI Z h a2 .byte v2) (hs : s2_0 q0 q1 v2 p3 p4) (hK : K (some (.long (f2_0 q0 q1 v2 p3 p4))) h []) : own_Go p e below (own_Q s K cc2 ss2) T (mkF m 0 #[.val (.long q0), .second, .val (.long q1), .second, .val (.ref a2), .val (.int p3), .val (.int p4), .unset, .unset, .unset, .unset, .unset, .unset, .unset, .unset, .unset, .unset, .unset, .unset, .unset, .unset, .unset, .unset] []) := by
  obtain ⟨hx, hZ, hw, hby, hml, hown, hret, hlk, hnm⟩ := id C
  unfold f2_0 at hK
  unfold s2_0 at hs
  refine o_lloadN (pc' := 1) X hx (hb hby d2_0) rfl rfl ?_
  refine o_ldcL (pc' := 4) X hx hZ hown (hw _ (List.mem_of_getElem? (i := 30) rfl)) (hb hby d2_1) rfl ?_
  refine o_lxor (pc' := 5)  X hx (hb hby d2_4) rfl rfl ?_
  refine o_lstore (pc' := 7) (l' := #[.val (.long q0), .second, .val (.long q1), .second, .val (.ref a2), .val (.int p3), .val (.int p4), .val (.long (q0 ^^^ (8317987319222330741 : Int64))), .second, .unset, .unset, .unset, .unset, .unset, .unset, .unset, .unset, .unset, .unset, .unset, .unset, .unset, .unset]) X hx (hb hby d2_5) rfl rfl ?_
  refine o_lloadN (pc' := 8) X hx (hb hby d2_7) rfl rfl ?_
  refine o_ldcL (pc' := 11) X hx hZ hown (hw _ (List.mem_of_getElem? (i := 31) rfl)) (hb hby d2_8) rfl ?_
  refine o_lxor (pc' := 12)  X hx (hb hby d2_11) rfl rfl ?_
  refine o_lstore (pc' := 14) (l' := #[.val (.long q0), .second, .val (.long q1), .second, .val (.ref a2), .val (.int p3), .val (.int p4), .val (.long (q0 ^^^ (8317987319222330741 : Int64))), .second, .val (.long (q1 ^^^ (7237128888997146477 : Int64))), .second, .unset, .unset, .unset, .unset, .unset, .unset, .unset, .unset, .unset, .unset, .unset, .unset]) X hx (hb hby d2_12) rfl rfl ?_
  refine o_lloadN (pc' := 15) X hx (hb hby d2_14) rfl rfl ?_
  refine o_ldcL (pc' := 18) X hx hZ hown (hw _ (List.mem_of_getElem? (i := 32) rfl)) (hb hby d2_15) rfl ?_
  refine o_lxor (pc' := 19)  X hx (hb hby d2_18) rfl rfl ?_
  refine o_lstore (pc' := 21) (l' := #[.val (.long q0), .second, .val (.long q1), .second, .val (.ref a2), .val (.int p3), .val (.int p4), .val (.long (q0 ^^^ (8317987319222330741 : Int64))), .second, .val (.long (q1 ^^^ (7237128888997146477 : Int64))), .second, .val (.long (q0 ^^^ (7816392313619706465 : Int64))), .second, .unset, .unset, .unset, .unset, .unset, .unset, .unset, .unset, .unset, .unset]) X hx (hb hby d2_19) rfl rfl ?_
  refine o_lloadN (pc' := 22) X hx (hb hby d2_21) rfl rfl ?_
  refine o_ldcL (pc' := 25) X hx hZ hown (hw _ (List.mem_of_getElem? (i := 33) rfl)) (hb hby d2_22) rfl ?_
  refine o_lxor (pc' := 26)  X hx (hb hby d2_25) rfl rfl ?_
  refine o_lstore (pc' := 28) (l' := #[.val (.long q0), .second, .val (.long q1), .second, .val (.ref a2), .val (.int p3), .val (.int p4), .val (.long (q0 ^^^ (8317987319222330741 : Int64))), .second, .val (.long (q1 ^^^ (7237128888997146477 : Int64))), .second, .val (.long (q0 ^^^ (7816392313619706465 : Int64))), .second, .val (.long (q1 ^^^ (8387220255154660723 : Int64))), .second, .unset, .unset, .unset, .unset, .unset, .unset, .unset, .unset]) X hx (hb hby d2_26) rfl rfl ?_
  refine o_iload (pc' := 30) X hx (hb hby d2_28) rfl rfl ?_
  refine o_iload (pc' := 32) X hx (hb hby d2_30) rfl rfl ?_
  refine o_isub (pc' := 33)  X hx (hb hby d2_32) rfl rfl ?_
  refine o_istore (pc' := 35) (l' := #[.val (.long q0), .second, .val (.long q1), .second, .val (.ref a2), .val (.int p3), .val (.int p4), .val (.long (q0 ^^^ (8317987319222330741 : Int64))), .second, .val (.long (q1 ^^^ (7237128888997146477 : Int64))), .second, .val (.long (q0 ^^^ (7816392313619706465 : Int64))), .second, .val (.long (q1 ^^^ (8387220255154660723 : Int64))), .second, .val (.int (p4 - p3)), .unset, .unset, .unset, .unset, .unset, .unset, .unset]) X hx (hb hby d2_33) rfl rfl ?_
  refine o_iload (pc' := 37) X hx (hb hby d2_35) rfl rfl ?_
  refine o_bipush (pc' := 39) (x := (8 : Int32)) X hx (hb hby d2_37) (by decide) rfl ?_
  refine o_idiv (pc' := 40)  X hx (hb hby d2_39) rfl (by decide) rfl ?_
  refine o_iconst (pc' := 41) (x := (1 : Int32)) X hx (hb hby d2_40) (by decide) rfl ?_
  refine o_iadd (pc' := 42)  X hx (hb hby d2_41) rfl rfl ?_
  refine o_istore (pc' := 44) (l' := #[.val (.long q0), .second, .val (.long q1), .second, .val (.ref a2), .val (.int p3), .val (.int p4), .val (.long (q0 ^^^ (8317987319222330741 : Int64))), .second, .val (.long (q1 ^^^ (7237128888997146477 : Int64))), .second, .val (.long (q0 ^^^ (7816392313619706465 : Int64))), .second, .val (.long (q1 ^^^ (8387220255154660723 : Int64))), .second, .val (.int (p4 - p3)), .val (.int (((p4 - p3) / (8 : Int32)) + (1 : Int32))), .unset, .unset, .unset, .unset, .unset, .unset]) X hx (hb hby d2_42) rfl rfl ?_
  refine o_iconst (pc' := 45) (x := (0 : Int32)) X hx (hb hby d2_44) (by decide) rfl ?_
  refine o_istore (pc' := 47) (l' := #[.val (.long q0), .second, .val (.long q1), .second, .val (.ref a2), .val (.int p3), .val (.int p4), .val (.long (q0 ^^^ (8317987319222330741 : Int64))), .second, .val (.long (q1 ^^^ (7237128888997146477 : Int64))), .second, .val (.long (q0 ^^^ (7816392313619706465 : Int64))), .second, .val (.long (q1 ^^^ (8387220255154660723 : Int64))), .second, .val (.int (p4 - p3)), .val (.int (((p4 - p3) / (8 : Int32)) + (1 : Int32))), .val (.int (0 : Int32)), .unset, .unset, .unset, .unset, .unset]) X hx (hb hby d2_45) rfl rfl ?_
  exact b2_47 C a2 v2 p3 (q0 ^^^ (8317987319222330741 : Int64)) (q1 ^^^ (7237128888997146477 : Int64)) (q0 ^^^ (7816392313619706465 : Int64)) (q1 ^^^ (8387220255154660723 : Int64)) (p4 - p3) (((p4 - p3) / (8 : Int32)) + (1 : Int32)) (0 : Int32) X eT Aa2 (One.val rfl) One.u One.u One.u hs hK

end Body2
theorem ef_2 (m : MethodId) (q0 : Int64) (q1 : Int64) (a2 : Addr) (p3 : Int32) (p4 : Int32) : entryFrame m #[(.long q0), (.long q1), (.ref a2), (.int p3), (.int p4)] 23 = mkF m 0 #[.val (.long q0), .second, .val (.long q1), .second, .val (.ref a2), .val (.int p3), .val (.int p4), .unset, .unset, .unset, .unset, .unset, .unset, .unset, .unset, .unset, .unset, .unset, .unset, .unset, .unset, .unset, .unset] [] := by first | (simp [entryFrame, mkF, argsToLocals, Value.category]; done) | rfl
set_option maxRecDepth 65536 in
set_option maxHeartbeats 40000000 in
theorem rm2 (l : Launch) (Z : State) (ag : Array Value) (hw : ∀ d ∈ tables_1, d.before ag Z = true) (ws : List Jvm.Cond) (q0 : Int64) (q1 : Int64) (a2 : Addr) (v2 : List Int32) (p3 : Int32) (p4 : Int32) (h0 : Heap) (Aa2 : own_AI Z h0 a2 .byte v2) (hs : s2_0 q0 q1 v2 p3 p4) :
    MetFree l (⟨"com/example/fairtally/fairtally/ledger/csv/SipHash", "of", "(JJ[BII)J"⟩ : MethodName) (head1 (Jvm.Cond.code (⟨"com/example/fairtally/fairtally/ledger/csv/SipHash", "of", "(JJ[BII)J"⟩ : MethodName) prog_73_method_2_code 23 (some .long) :: ws) R2) (fun a U => a = #[(.long q0), (.long q1), (.ref a2), (.int p3), (.int p4)] ∧ Z.Warmed39 U.vm ∧ U.heap = h0) (fun _ _ _ _ _ => True) (fun _ U o U' => ∃ v L, o = .returned v ∧ own_KP (some (.long (f2_0 q0 q1 v2 p3 p4))) h0 v U'.heap L ∧ FrameEnd U o U' L R2.cells R2.slots) := by
  refine MetFree.of_bodySF (plainFor_of_name pn_SipHash) hisR ?_
  intro p e s m args below meth c s₁ Bd hml0 hP hK
  obtain ⟨rfl, hZ, hh⟩ := hP
  have C : own_Cx p s m meth c Z ag prog_73_method_2_code 23 "com/example/fairtally/fairtally/ledger/csv/SipHash" (some .long) "of" := ⟨Bd.exec, hZ, hw, Bd.bytes, hml0, findClass_of_methodNamed Bd.named, Bd.returns, Bd.notSynchronized, (name_of_methodNamed Bd.named Bd.method).1⟩
  have X0 : Stand p l e R2 s m #[(.long q0), (.long q1), (.ref a2), (.int p3), (.int p4)] below meth c s₁ [] 0 0 := Stand.of_body Bd
  have e0 : s₁.heap = h0 := by rw [← hh, Bd.state]; rfl
  rw [ef_2]
  exact b2_0 (K := own_KP (some (.long (f2_0 q0 q1 v2 p3 p4))) h0) C q0 q1 a2 v2 p3 p4 X0 e0 Aa2 hs ⟨rfl, rfl, rfl⟩

section Body0
variable {p : Program} {l : Launch} {e : Env} {s : State} {m : MethodId} {args : Array Value} {below : List Frame} {meth : Method} {c : Code} {Z : State} {ag : Array Value} {K : Option Value → Heap → List Loc → Prop}
abbrev R0 : Room := room_1
abbrev cc0 : Nat := 2
abbrev ss0 : Nat := 49
def f0_804 : Int32 := (0 : Int32)
set_option maxRecDepth 65536 in
set_option maxHeartbeats 40000000 in
theorem b0_804 (C : own_Cx p s m meth c Z ag code maxLocals "com/example/fairtally/fairtally/ledger/csv/SipHashOfPinLaw" ret "law") {T : State} {h : Heap} {z2 : Int64} {z4 : Int64} {z6 : Int64} {z8 : Int64} {z14 : Int64} {z0 : Slot} {z1 : Slot} {z10 : Slot} {z11 : Slot} {z12 : Slot} {z13 : Slot} (X : Stand p l e R0 s m args below meth c T [] 2 49) (eT : T.heap = h) (hz0 : One z0) (hz1 : One z1) (hz10 : One z10) (hz11 : One z11) (hz12 : One z12) (hz13 : One z13) (hK : ∀ h', K (some (.int (f0_804))) h' []) : own_Go p e below (own_Q s K cc0 ss0) T (mkF m 804 #[z0, z1, .val (.long z2), .second, .val (.long z4), .second, .val (.long z6), .second, .val (.long z8), .second, z10, z11, z12, z13, .val (.long z14), .second] [(.int (0 : Int32))]) := by
  obtain ⟨hx, hZ, hw, hby, hml, hown, hret, hlk, hnm⟩ := id C
  unfold f0_804 at hK
  exact o_retN X hx (t := .boolean) hret (by simp) hlk (hb hby at_804) (by decide) (by decide) eT (hK _)

def f0_804_2 : Int32 := (1 : Int32)
set_option maxRecDepth 65536 in
set_option maxHeartbeats 40000000 in
theorem b0_804_2 (C : own_Cx p s m meth c Z ag code maxLocals "com/example/fairtally/fairtally/ledger/csv/SipHashOfPinLaw" ret "law") {T : State} {h : Heap} {z2 : Int64} {z4 : Int64} {z6 : Int64} {z8 : Int64} {z14 : Int64} {z0 : Slot} {z1 : Slot} {z10 : Slot} {z11 : Slot} {z12 : Slot} {z13 : Slot} (X : Stand p l e R0 s m args below meth c T [] 2 49) (eT : T.heap = h) (hz0 : One z0) (hz1 : One z1) (hz10 : One z10) (hz11 : One z11) (hz12 : One z12) (hz13 : One z13) (hK : ∀ h', K (some (.int (f0_804_2))) h' []) : own_Go p e below (own_Q s K cc0 ss0) T (mkF m 804 #[z0, z1, .val (.long z2), .second, .val (.long z4), .second, .val (.long z6), .second, .val (.long z8), .second, z10, z11, z12, z13, .val (.long z14), .second] [(.int (1 : Int32))]) := by
  obtain ⟨hx, hZ, hw, hby, hml, hown, hret, hlk, hnm⟩ := id C
  unfold f0_804_2 at hK
  exact o_retN X hx (t := .boolean) hret (by simp) hlk (hb hby at_804) (by decide) (by decide) eT (hK _)

def f0_0 (p0 : Int32) (p1 : Int32) (q2 : Int64) (q3 : Int64) (q4 : Int64) (q5 : Int64) : Int32 := (if (f2_0 (506097522914230528 : Int64) (1084818905618843912 : Int64) [(own_i2b (f1_0 (0 : Int32) (p1 &&& (15 : Int32)) (own_rem (p0 &&& (2147483647 : Int32)) (17 : Int32)) q2 q3 q4 q5)), (own_i2b (f1_0 (1 : Int32) (p1 &&& (15 : Int32)) (own_rem (p0 &&& (2147483647 : Int32)) (17 : Int32)) q2 q3 q4 q5)), (own_i2b (f1_0 (2 : Int32) (p1 &&& (15 : Int32)) (own_rem (p0 &&& (2147483647 : Int32)) (17 : Int32)) q2 q3 q4 q5)), (own_i2b (f1_0 (3 : Int32) (p1 &&& (15 : Int32)) (own_rem (p0 &&& (2147483647 : Int32)) (17 : Int32)) q2 q3 q4 q5)), (own_i2b (f1_0 (4 : Int32) (p1 &&& (15 : Int32)) (own_rem (p0 &&& (2147483647 : Int32)) (17 : Int32)) q2 q3 q4 q5)), (own_i2b (f1_0 (5 : Int32) (p1 &&& (15 : Int32)) (own_rem (p0 &&& (2147483647 : Int32)) (17 : Int32)) q2 q3 q4 q5)), (own_i2b (f1_0 (6 : Int32) (p1 &&& (15 : Int32)) (own_rem (p0 &&& (2147483647 : Int32)) (17 : Int32)) q2 q3 q4 q5)), (own_i2b (f1_0 (7 : Int32) (p1 &&& (15 : Int32)) (own_rem (p0 &&& (2147483647 : Int32)) (17 : Int32)) q2 q3 q4 q5)), (own_i2b (f1_0 (8 : Int32) (p1 &&& (15 : Int32)) (own_rem (p0 &&& (2147483647 : Int32)) (17 : Int32)) q2 q3 q4 q5)), (own_i2b (f1_0 (9 : Int32) (p1 &&& (15 : Int32)) (own_rem (p0 &&& (2147483647 : Int32)) (17 : Int32)) q2 q3 q4 q5)), (own_i2b (f1_0 (10 : Int32) (p1 &&& (15 : Int32)) (own_rem (p0 &&& (2147483647 : Int32)) (17 : Int32)) q2 q3 q4 q5)), (own_i2b (f1_0 (11 : Int32) (p1 &&& (15 : Int32)) (own_rem (p0 &&& (2147483647 : Int32)) (17 : Int32)) q2 q3 q4 q5)), (own_i2b (f1_0 (12 : Int32) (p1 &&& (15 : Int32)) (own_rem (p0 &&& (2147483647 : Int32)) (17 : Int32)) q2 q3 q4 q5)), (own_i2b (f1_0 (13 : Int32) (p1 &&& (15 : Int32)) (own_rem (p0 &&& (2147483647 : Int32)) (17 : Int32)) q2 q3 q4 q5)), (own_i2b (f1_0 (14 : Int32) (p1 &&& (15 : Int32)) (own_rem (p0 &&& (2147483647 : Int32)) (17 : Int32)) q2 q3 q4 q5)), (own_i2b (f1_0 (15 : Int32) (p1 &&& (15 : Int32)) (own_rem (p0 &&& (2147483647 : Int32)) (17 : Int32)) q2 q3 q4 q5)), (own_i2b (f1_0 (16 : Int32) (p1 &&& (15 : Int32)) (own_rem (p0 &&& (2147483647 : Int32)) (17 : Int32)) q2 q3 q4 q5)), (own_i2b (f1_0 (17 : Int32) (p1 &&& (15 : Int32)) (own_rem (p0 &&& (2147483647 : Int32)) (17 : Int32)) q2 q3 q4 q5)), (own_i2b (f1_0 (18 : Int32) (p1 &&& (15 : Int32)) (own_rem (p0 &&& (2147483647 : Int32)) (17 : Int32)) q2 q3 q4 q5)), (own_i2b (f1_0 (19 : Int32) (p1 &&& (15 : Int32)) (own_rem (p0 &&& (2147483647 : Int32)) (17 : Int32)) q2 q3 q4 q5)), (own_i2b (f1_0 (20 : Int32) (p1 &&& (15 : Int32)) (own_rem (p0 &&& (2147483647 : Int32)) (17 : Int32)) q2 q3 q4 q5)), (own_i2b (f1_0 (21 : Int32) (p1 &&& (15 : Int32)) (own_rem (p0 &&& (2147483647 : Int32)) (17 : Int32)) q2 q3 q4 q5)), (own_i2b (f1_0 (22 : Int32) (p1 &&& (15 : Int32)) (own_rem (p0 &&& (2147483647 : Int32)) (17 : Int32)) q2 q3 q4 q5)), (own_i2b (f1_0 (23 : Int32) (p1 &&& (15 : Int32)) (own_rem (p0 &&& (2147483647 : Int32)) (17 : Int32)) q2 q3 q4 q5)), (own_i2b (f1_0 (24 : Int32) (p1 &&& (15 : Int32)) (own_rem (p0 &&& (2147483647 : Int32)) (17 : Int32)) q2 q3 q4 q5)), (own_i2b (f1_0 (25 : Int32) (p1 &&& (15 : Int32)) (own_rem (p0 &&& (2147483647 : Int32)) (17 : Int32)) q2 q3 q4 q5)), (own_i2b (f1_0 (26 : Int32) (p1 &&& (15 : Int32)) (own_rem (p0 &&& (2147483647 : Int32)) (17 : Int32)) q2 q3 q4 q5)), (own_i2b (f1_0 (27 : Int32) (p1 &&& (15 : Int32)) (own_rem (p0 &&& (2147483647 : Int32)) (17 : Int32)) q2 q3 q4 q5)), (own_i2b (f1_0 (28 : Int32) (p1 &&& (15 : Int32)) (own_rem (p0 &&& (2147483647 : Int32)) (17 : Int32)) q2 q3 q4 q5)), (own_i2b (f1_0 (29 : Int32) (p1 &&& (15 : Int32)) (own_rem (p0 &&& (2147483647 : Int32)) (17 : Int32)) q2 q3 q4 q5)), (own_i2b (f1_0 (30 : Int32) (p1 &&& (15 : Int32)) (own_rem (p0 &&& (2147483647 : Int32)) (17 : Int32)) q2 q3 q4 q5)), (own_i2b (f1_0 (31 : Int32) (p1 &&& (15 : Int32)) (own_rem (p0 &&& (2147483647 : Int32)) (17 : Int32)) q2 q3 q4 q5))] (p1 &&& (15 : Int32)) ((p1 &&& (15 : Int32)) + (own_rem (p0 &&& (2147483647 : Int32)) (17 : Int32)))) = (own_getL [(8246050544436514353 : Int64), (8428550223375919101 : Int64), (967288799772626778 : Int64), (-8833979346009227731 : Int64), (-3519680893311416393 : Int64), (1762690195596617357 : Int64), (-3762398573937892402 : Int64), (-6124331488671313609 : Int64), (-7785046478206851998 : Int64), (-7061500321231936336 : Int64), (8817410102741809651 : Int64), (-814255129352229465 : Int64), (8439340791604635131 : Int64), (1507111754042457488 : Int64), (-638443999941954834 : Int64), (-6833708440360172059 : Int64), (4551675220716592091 : Int64)] (own_rem (p0 &&& (2147483647 : Int32)) (17 : Int32))) then f0_804_2 else f0_804)
def s0_0 (p0 : Int32) (p1 : Int32) (q2 : Int64) (q3 : Int64) (q4 : Int64) (q5 : Int64) : Prop := ((s2_0 (506097522914230528 : Int64) (1084818905618843912 : Int64) [(own_i2b (f1_0 (0 : Int32) (p1 &&& (15 : Int32)) (own_rem (p0 &&& (2147483647 : Int32)) (17 : Int32)) q2 q3 q4 q5)), (own_i2b (f1_0 (1 : Int32) (p1 &&& (15 : Int32)) (own_rem (p0 &&& (2147483647 : Int32)) (17 : Int32)) q2 q3 q4 q5)), (own_i2b (f1_0 (2 : Int32) (p1 &&& (15 : Int32)) (own_rem (p0 &&& (2147483647 : Int32)) (17 : Int32)) q2 q3 q4 q5)), (own_i2b (f1_0 (3 : Int32) (p1 &&& (15 : Int32)) (own_rem (p0 &&& (2147483647 : Int32)) (17 : Int32)) q2 q3 q4 q5)), (own_i2b (f1_0 (4 : Int32) (p1 &&& (15 : Int32)) (own_rem (p0 &&& (2147483647 : Int32)) (17 : Int32)) q2 q3 q4 q5)), (own_i2b (f1_0 (5 : Int32) (p1 &&& (15 : Int32)) (own_rem (p0 &&& (2147483647 : Int32)) (17 : Int32)) q2 q3 q4 q5)), (own_i2b (f1_0 (6 : Int32) (p1 &&& (15 : Int32)) (own_rem (p0 &&& (2147483647 : Int32)) (17 : Int32)) q2 q3 q4 q5)), (own_i2b (f1_0 (7 : Int32) (p1 &&& (15 : Int32)) (own_rem (p0 &&& (2147483647 : Int32)) (17 : Int32)) q2 q3 q4 q5)), (own_i2b (f1_0 (8 : Int32) (p1 &&& (15 : Int32)) (own_rem (p0 &&& (2147483647 : Int32)) (17 : Int32)) q2 q3 q4 q5)), (own_i2b (f1_0 (9 : Int32) (p1 &&& (15 : Int32)) (own_rem (p0 &&& (2147483647 : Int32)) (17 : Int32)) q2 q3 q4 q5)), (own_i2b (f1_0 (10 : Int32) (p1 &&& (15 : Int32)) (own_rem (p0 &&& (2147483647 : Int32)) (17 : Int32)) q2 q3 q4 q5)), (own_i2b (f1_0 (11 : Int32) (p1 &&& (15 : Int32)) (own_rem (p0 &&& (2147483647 : Int32)) (17 : Int32)) q2 q3 q4 q5)), (own_i2b (f1_0 (12 : Int32) (p1 &&& (15 : Int32)) (own_rem (p0 &&& (2147483647 : Int32)) (17 : Int32)) q2 q3 q4 q5)), (own_i2b (f1_0 (13 : Int32) (p1 &&& (15 : Int32)) (own_rem (p0 &&& (2147483647 : Int32)) (17 : Int32)) q2 q3 q4 q5)), (own_i2b (f1_0 (14 : Int32) (p1 &&& (15 : Int32)) (own_rem (p0 &&& (2147483647 : Int32)) (17 : Int32)) q2 q3 q4 q5)), (own_i2b (f1_0 (15 : Int32) (p1 &&& (15 : Int32)) (own_rem (p0 &&& (2147483647 : Int32)) (17 : Int32)) q2 q3 q4 q5)), (own_i2b (f1_0 (16 : Int32) (p1 &&& (15 : Int32)) (own_rem (p0 &&& (2147483647 : Int32)) (17 : Int32)) q2 q3 q4 q5)), (own_i2b (f1_0 (17 : Int32) (p1 &&& (15 : Int32)) (own_rem (p0 &&& (2147483647 : Int32)) (17 : Int32)) q2 q3 q4 q5)), (own_i2b (f1_0 (18 : Int32) (p1 &&& (15 : Int32)) (own_rem (p0 &&& (2147483647 : Int32)) (17 : Int32)) q2 q3 q4 q5)), (own_i2b (f1_0 (19 : Int32) (p1 &&& (15 : Int32)) (own_rem (p0 &&& (2147483647 : Int32)) (17 : Int32)) q2 q3 q4 q5)), (own_i2b (f1_0 (20 : Int32) (p1 &&& (15 : Int32)) (own_rem (p0 &&& (2147483647 : Int32)) (17 : Int32)) q2 q3 q4 q5)), (own_i2b (f1_0 (21 : Int32) (p1 &&& (15 : Int32)) (own_rem (p0 &&& (2147483647 : Int32)) (17 : Int32)) q2 q3 q4 q5)), (own_i2b (f1_0 (22 : Int32) (p1 &&& (15 : Int32)) (own_rem (p0 &&& (2147483647 : Int32)) (17 : Int32)) q2 q3 q4 q5)), (own_i2b (f1_0 (23 : Int32) (p1 &&& (15 : Int32)) (own_rem (p0 &&& (2147483647 : Int32)) (17 : Int32)) q2 q3 q4 q5)), (own_i2b (f1_0 (24 : Int32) (p1 &&& (15 : Int32)) (own_rem (p0 &&& (2147483647 : Int32)) (17 : Int32)) q2 q3 q4 q5)), (own_i2b (f1_0 (25 : Int32) (p1 &&& (15 : Int32)) (own_rem (p0 &&& (2147483647 : Int32)) (17 : Int32)) q2 q3 q4 q5)), (own_i2b (f1_0 (26 : Int32) (p1 &&& (15 : Int32)) (own_rem (p0 &&& (2147483647 : Int32)) (17 : Int32)) q2 q3 q4 q5)), (own_i2b (f1_0 (27 : Int32) (p1 &&& (15 : Int32)) (own_rem (p0 &&& (2147483647 : Int32)) (17 : Int32)) q2 q3 q4 q5)), (own_i2b (f1_0 (28 : Int32) (p1 &&& (15 : Int32)) (own_rem (p0 &&& (2147483647 : Int32)) (17 : Int32)) q2 q3 q4 q5)), (own_i2b (f1_0 (29 : Int32) (p1 &&& (15 : Int32)) (own_rem (p0 &&& (2147483647 : Int32)) (17 : Int32)) q2 q3 q4 q5)), (own_i2b (f1_0 (30 : Int32) (p1 &&& (15 : Int32)) (own_rem (p0 &&& (2147483647 : Int32)) (17 : Int32)) q2 q3 q4 q5)), (own_i2b (f1_0 (31 : Int32) (p1 &&& (15 : Int32)) (own_rem (p0 &&& (2147483647 : Int32)) (17 : Int32)) q2 q3 q4 q5))] (p1 &&& (15 : Int32)) ((p1 &&& (15 : Int32)) + (own_rem (p0 &&& (2147483647 : Int32)) (17 : Int32)))) ∧ own_in [(8246050544436514353 : Int64), (8428550223375919101 : Int64), (967288799772626778 : Int64), (-8833979346009227731 : Int64), (-3519680893311416393 : Int64), (1762690195596617357 : Int64), (-3762398573937892402 : Int64), (-6124331488671313609 : Int64), (-7785046478206851998 : Int64), (-7061500321231936336 : Int64), (8817410102741809651 : Int64), (-814255129352229465 : Int64), (8439340791604635131 : Int64), (1507111754042457488 : Int64), (-638443999941954834 : Int64), (-6833708440360172059 : Int64), (4551675220716592091 : Int64)].length (own_rem (p0 &&& (2147483647 : Int32)) (17 : Int32)) ∧ True)
set_option maxRecDepth 65536 in
set_option maxHeartbeats 40000000 in
theorem b0_0 (C : own_Cx p s m meth c Z ag code maxLocals "com/example/fairtally/fairtally/ledger/csv/SipHashOfPinLaw" ret "law") {T : State} {h : Heap} (p0 : Int32) (p1 : Int32) (q2 : Int64) (q3 : Int64) (q4 : Int64) (q5 : Int64) (X : Stand p l e R0 s m args below meth c T [] 0 0) (eT : T.heap = h) (hs : s0_0 p0 p1 q2 q3 q4 q5) (hK : ∀ h', K (some (.int (f0_0 p0 p1 q2 q3 q4 q5))) h' []) : own_Go p e below (own_Q s K cc0 ss0) T (mkF m 0 #[.val (.int p0), .val (.int p1), .val (.long q2), .second, .val (.long q3), .second, .val (.long q4), .second, .val (.long q5), .second, .unset, .unset, .unset, .unset, .unset, .unset] []) := by
  obtain ⟨hx, hZ, hw, hby, hml, hown, hret, hlk, hnm⟩ := id C
  unfold f0_0 at hK
  unfold s0_0 at hs
  refine o_iloadN (pc' := 1) X hx (hb hby at_0) rfl rfl ?_
  refine o_ldcI (pc' := 3) X hx hZ hown (hw _ (List.mem_of_getElem? (i := 0) rfl)) (hb hby at_1) rfl ?_
  refine o_iand (pc' := 4)  X hx (hb hby at_3) rfl rfl ?_
  refine o_bipush (pc' := 6) (x := (17 : Int32)) X hx (hb hby at_4) (by decide) rfl ?_
  refine o_irem (pc' := 7)  X hx (hb hby at_6) rfl (by decide) rfl ?_
  refine o_istore (pc' := 9) (l' := #[.val (.int p0), .val (.int p1), .val (.long q2), .second, .val (.long q3), .second, .val (.long q4), .second, .val (.long q5), .second, .val (.int (own_rem (p0 &&& (2147483647 : Int32)) (17 : Int32))), .unset, .unset, .unset, .unset, .unset]) X hx (hb hby at_7) rfl rfl ?_
  refine o_iloadN (pc' := 10) X hx (hb hby at_9) rfl rfl ?_
  refine o_bipush (pc' := 12) (x := (15 : Int32)) X hx (hb hby at_10) (by decide) rfl ?_
  refine o_iand (pc' := 13)  X hx (hb hby at_12) rfl rfl ?_
  refine o_istore (pc' := 15) (l' := #[.val (.int p0), .val (.int p1), .val (.long q2), .second, .val (.long q3), .second, .val (.long q4), .second, .val (.long q5), .second, .val (.int (own_rem (p0 &&& (2147483647 : Int32)) (17 : Int32))), .val (.int (p1 &&& (15 : Int32))), .unset, .unset, .unset, .unset]) X hx (hb hby at_13) rfl rfl ?_
  refine o_bipush (pc' := 17) (x := (32 : Int32)) X hx (hb hby at_15) (by decide) rfl ?_
  refine o_newI (pc' := 19) (cap := 32) (vs := [(0 : Int32), (0 : Int32), (0 : Int32), (0 : Int32), (0 : Int32), (0 : Int32), (0 : Int32), (0 : Int32), (0 : Int32), (0 : Int32), (0 : Int32), (0 : Int32), (0 : Int32), (0 : Int32), (0 : Int32), (0 : Int32), (0 : Int32), (0 : Int32), (0 : Int32), (0 : Int32), (0 : Int32), (0 : Int32), (0 : Int32), (0 : Int32), (0 : Int32), (0 : Int32), (0 : Int32), (0 : Int32), (0 : Int32), (0 : Int32), (0 : Int32), (0 : Int32)]) X hx hZ eT (hw _ (List.mem_of_getElem? (i := 1) rfl)) rfl rfl (hb hby at_17) rfl (by decide) (by decide) (by decide) (by decide) (by decide) rfl fun T32 h32 b32 X32 e32 q32 E32 A32 => ?_
  have g32 : s.heap.size ≤ b32 := q32 ▸ own_sz X eT
  refine o_dup (pc' := 20) X32 hx (hb hby at_19) rfl rfl ?_
  refine o_iconst (pc' := 21) (x := (0 : Int32)) X32 hx (hb hby at_20) (by decide) rfl ?_
  refine o_iconst (pc' := 22) (x := (0 : Int32)) X32 hx (hb hby at_21) (by decide) rfl ?_
  refine o_iload (pc' := 24) X32 hx (hb hby at_22) rfl rfl ?_
  refine o_iload (pc' := 26) X32 hx (hb hby at_24) rfl rfl ?_
  refine o_lloadN (pc' := 27) X32 hx (hb hby at_26) rfl rfl ?_
  refine o_lload (pc' := 29) X32 hx (hb hby at_27) rfl rfl ?_
  refine o_lload (pc' := 31) X32 hx (hb hby at_29) rfl rfl ?_
  refine o_lload (pc' := 33) X32 hx (hb hby at_31) rfl rfl ?_
  refine o_callP (W := 3) (pc' := 36) (argsL := [(.int (0 : Int32)), (.int (p1 &&& (15 : Int32))), (.int (own_rem (p0 &&& (2147483647 : Int32)) (17 : Int32))), (.long q2), (.long q3), (.long q4), (.long q5)]) (rest := [(.int (0 : Int32)), (.ref b32), (.ref b32)]) (st' := [(.int (f1_0 (0 : Int32) (p1 &&& (15 : Int32)) (own_rem (p0 &&& (2147483647 : Int32)) (17 : Int32)) q2 q3 q4 q5)), (.int (0 : Int32)), (.ref b32), (.ref b32)]) X32 hx hZ e32 hown (hw _ (List.mem_of_getElem? (i := 2) rfl)) (hw _ (List.mem_of_getElem? (i := 3) rfl)) (hw _ (List.mem_of_getElem? (i := 4) rfl)) (hw _ (List.mem_of_getElem? (i := 5) rfl)) (by decide) (rm1 l Z ag hw [] (0 : Int32) (p1 &&& (15 : Int32)) (own_rem (p0 &&& (2147483647 : Int32)) (17 : Int32)) q2 q3 q4 q5 h32) (by decide) (by decide) (by rw [hml]; rfl) pd_2 rfl rfl rfl rfl (hb hby at_33) rfl rfl rfl (by decide) (by decide) rfl fun T33 X33 e33 => ?_
  refine o_bastore (pc' := 37) (vs' := [(own_i2b (f1_0 (0 : Int32) (p1 &&& (15 : Int32)) (own_rem (p0 &&& (2147483647 : Int32)) (17 : Int32)) q2 q3 q4 q5)), (0 : Int32), (0 : Int32), (0 : Int32), (0 : Int32), (0 : Int32), (0 : Int32), (0 : Int32), (0 : Int32), (0 : Int32), (0 : Int32), (0 : Int32), (0 : Int32), (0 : Int32), (0 : Int32), (0 : Int32), (0 : Int32), (0 : Int32), (0 : Int32), (0 : Int32), (0 : Int32), (0 : Int32), (0 : Int32), (0 : Int32), (0 : Int32), (0 : Int32), (0 : Int32), (0 : Int32), (0 : Int32), (0 : Int32), (0 : Int32), (0 : Int32)]) X33 hx hZ e33 A32 ⟨by decide, Nat.le_of_ble_eq_true rfl⟩ (hb hby at_36) rfl rfl fun T34 h34 X34 e34 W34 A34 => ?_
  have Y34 := own_drop X34 g32
  refine o_dup (pc' := 38) Y34 hx (hb hby at_37) rfl rfl ?_
  refine o_iconst (pc' := 39) (x := (1 : Int32)) Y34 hx (hb hby at_38) (by decide) rfl ?_
  refine o_iconst (pc' := 40) (x := (1 : Int32)) Y34 hx (hb hby at_39) (by decide) rfl ?_
  refine o_iload (pc' := 42) Y34 hx (hb hby at_40) rfl rfl ?_
  refine o_iload (pc' := 44) Y34 hx (hb hby at_42) rfl rfl ?_
  refine o_lloadN (pc' := 45) Y34 hx (hb hby at_44) rfl rfl ?_
  refine o_lload (pc' := 47) Y34 hx (hb hby at_45) rfl rfl ?_
  refine o_lload (pc' := 49) Y34 hx (hb hby at_47) rfl rfl ?_
  refine o_lload (pc' := 51) Y34 hx (hb hby at_49) rfl rfl ?_
  refine o_callP (W := 3) (pc' := 54) (argsL := [(.int (1 : Int32)), (.int (p1 &&& (15 : Int32))), (.int (own_rem (p0 &&& (2147483647 : Int32)) (17 : Int32))), (.long q2), (.long q3), (.long q4), (.long q5)]) (rest := [(.int (1 : Int32)), (.ref b32), (.ref b32)]) (st' := [(.int (f1_0 (1 : Int32) (p1 &&& (15 : Int32)) (own_rem (p0 &&& (2147483647 : Int32)) (17 : Int32)) q2 q3 q4 q5)), (.int (1 : Int32)), (.ref b32), (.ref b32)]) Y34 hx hZ e34 hown (hw _ (List.mem_of_getElem? (i := 2) rfl)) (hw _ (List.mem_of_getElem? (i := 3) rfl)) (hw _ (List.mem_of_getElem? (i := 4) rfl)) (hw _ (List.mem_of_getElem? (i := 5) rfl)) (by decide) (rm1 l Z ag hw [] (1 : Int32) (p1 &&& (15 : Int32)) (own_rem (p0 &&& (2147483647 : Int32)) (17 : Int32)) q2 q3 q4 q5 h34) (by decide) (by decide) (by rw [hml]; rfl) pd_2 rfl rfl rfl rfl (hb hby at_51) rfl rfl rfl (by decide) (by decide) rfl fun T35 X35 e35 => ?_
  refine o_bastore (pc' := 55) (vs' := [(own_i2b (f1_0 (0 : Int32) (p1 &&& (15 : Int32)) (own_rem (p0 &&& (2147483647 : Int32)) (17 : Int32)) q2 q3 q4 q5)), (own_i2b (f1_0 (1 : Int32) (p1 &&& (15 : Int32)) (own_rem (p0 &&& (2147483647 : Int32)) (17 : Int32)) q2 q3 q4 q5)), (0 : Int32), (0 : Int32), (0 : Int32), (0 : Int32), (0 : Int32), (0 : Int32), (0 : Int32), (0 : Int32), (0 : Int32), (0 : Int32), (0 : Int32), (0 : Int32), (0 : Int32), (0 : Int32), (0 : Int32), (0 : Int32), (0 : Int32), (0 : Int32), (0 : Int32), (0 : Int32), (0 : Int32), (0 : Int32), (0 : Int32), (0 : Int32), (0 : Int32), (0 : Int32), (0 : Int32), (0 : Int32), (0 : Int32), (0 : Int32)]) X35 hx hZ e35 A34 ⟨by decide, Nat.le_of_ble_eq_true rfl⟩ (hb hby at_54) rfl rfl fun T36 h36 X36 e36 W36 A36 => ?_
  have Y36 := own_drop X36 g32
  refine o_dup (pc' := 56) Y36 hx (hb hby at_55) rfl rfl ?_
  refine o_iconst (pc' := 57) (x := (2 : Int32)) Y36 hx (hb hby at_56) (by decide) rfl ?_
  refine o_iconst (pc' := 58) (x := (2 : Int32)) Y36 hx (hb hby at_57) (by decide) rfl ?_
  refine o_iload (pc' := 60) Y36 hx (hb hby at_58) rfl rfl ?_
  refine o_iload (pc' := 62) Y36 hx (hb hby at_60) rfl rfl ?_
  refine o_lloadN (pc' := 63) Y36 hx (hb hby at_62) rfl rfl ?_
  refine o_lload (pc' := 65) Y36 hx (hb hby at_63) rfl rfl ?_
  refine o_lload (pc' := 67) Y36 hx (hb hby at_65) rfl rfl ?_
  refine o_lload (pc' := 69) Y36 hx (hb hby at_67) rfl rfl ?_
  refine o_callP (W := 3) (pc' := 72) (argsL := [(.int (2 : Int32)), (.int (p1 &&& (15 : Int32))), (.int (own_rem (p0 &&& (2147483647 : Int32)) (17 : Int32))), (.long q2), (.long q3), (.long q4), (.long q5)]) (rest := [(.int (2 : Int32)), (.ref b32), (.ref b32)]) (st' := [(.int (f1_0 (2 : Int32) (p1 &&& (15 : Int32)) (own_rem (p0 &&& (2147483647 : Int32)) (17 : Int32)) q2 q3 q4 q5)), (.int (2 : Int32)), (.ref b32), (.ref b32)]) Y36 hx hZ e36 hown (hw _ (List.mem_of_getElem? (i := 2) rfl)) (hw _ (List.mem_of_getElem? (i := 3) rfl)) (hw _ (List.mem_of_getElem? (i := 4) rfl)) (hw _ (List.mem_of_getElem? (i := 5) rfl)) (by decide) (rm1 l Z ag hw [] (2 : Int32) (p1 &&& (15 : Int32)) (own_rem (p0 &&& (2147483647 : Int32)) (17 : Int32)) q2 q3 q4 q5 h36) (by decide) (by decide) (by rw [hml]; rfl) pd_2 rfl rfl rfl rfl (hb hby at_69) rfl rfl rfl (by decide) (by decide) rfl fun T37 X37 e37 => ?_
  refine o_bastore (pc' := 73) (vs' := [(own_i2b (f1_0 (0 : Int32) (p1 &&& (15 : Int32)) (own_rem (p0 &&& (2147483647 : Int32)) (17 : Int32)) q2 q3 q4 q5)), (own_i2b (f1_0 (1 : Int32) (p1 &&& (15 : Int32)) (own_rem (p0 &&& (2147483647 : Int32)) (17 : Int32)) q2 q3 q4 q5)), (own_i2b (f1_0 (2 : Int32) (p1 &&& (15 : Int32)) (own_rem (p0 &&& (2147483647 : Int32)) (17 : Int32)) q2 q3 q4 q5)), (0 : Int32), (0 : Int32), (0 : Int32), (0 : Int32), (0 : Int32), (0 : Int32), (0 : Int32), (0 : Int32), (0 : Int32), (0 : Int32), (0 : Int32), (0 : Int32), (0 : Int32), (0 : Int32), (0 : Int32), (0 : Int32), (0 : Int32), (0 : Int32), (0 : Int32), (0 : Int32), (0 : Int32), (0 : Int32), (0 : Int32), (0 : Int32), (0 : Int32), (0 : Int32), (0 : Int32), (0 : Int32), (0 : Int32)]) X37 hx hZ e37 A36 ⟨by decide, Nat.le_of_ble_eq_true rfl⟩ (hb hby at_72) rfl rfl fun T38 h38 X38 e38 W38 A38 => ?_
  have Y38 := own_drop X38 g32
  refine o_dup (pc' := 74) Y38 hx (hb hby at_73) rfl rfl ?_
  refine o_iconst (pc' := 75) (x := (3 : Int32)) Y38 hx (hb hby at_74) (by decide) rfl ?_
  refine o_iconst (pc' := 76) (x := (3 : Int32)) Y38 hx (hb hby at_75) (by decide) rfl ?_
  refine o_iload (pc' := 78) Y38 hx (hb hby at_76) rfl rfl ?_
  refine o_iload (pc' := 80) Y38 hx (hb hby at_78) rfl rfl ?_
  refine o_lloadN (pc' := 81) Y38 hx (hb hby at_80) rfl rfl ?_
  refine o_lload (pc' := 83) Y38 hx (hb hby at_81) rfl rfl ?_
  refine o_lload (pc' := 85) Y38 hx (hb hby at_83) rfl rfl ?_
  refine o_lload (pc' := 87) Y38 hx (hb hby at_85) rfl rfl ?_
  refine o_callP (W := 3) (pc' := 90) (argsL := [(.int (3 : Int32)), (.int (p1 &&& (15 : Int32))), (.int (own_rem (p0 &&& (2147483647 : Int32)) (17 : Int32))), (.long q2), (.long q3), (.long q4), (.long q5)]) (rest := [(.int (3 : Int32)), (.ref b32), (.ref b32)]) (st' := [(.int (f1_0 (3 : Int32) (p1 &&& (15 : Int32)) (own_rem (p0 &&& (2147483647 : Int32)) (17 : Int32)) q2 q3 q4 q5)), (.int (3 : Int32)), (.ref b32), (.ref b32)]) Y38 hx hZ e38 hown (hw _ (List.mem_of_getElem? (i := 2) rfl)) (hw _ (List.mem_of_getElem? (i := 3) rfl)) (hw _ (List.mem_of_getElem? (i := 4) rfl)) (hw _ (List.mem_of_getElem? (i := 5) rfl)) (by decide) (rm1 l Z ag hw [] (3 : Int32) (p1 &&& (15 : Int32)) (own_rem (p0 &&& (2147483647 : Int32)) (17 : Int32)) q2 q3 q4 q5 h38) (by decide) (by decide) (by rw [hml]; rfl) pd_2 rfl rfl rfl rfl (hb hby at_87) rfl rfl rfl (by decide) (by decide) rfl fun T39 X39 e39 => ?_
  refine o_bastore (pc' := 91) (vs' := [(own_i2b (f1_0 (0 : Int32) (p1 &&& (15 : Int32)) (own_rem (p0 &&& (2147483647 : Int32)) (17 : Int32)) q2 q3 q4 q5)), (own_i2b (f1_0 (1 : Int32) (p1 &&& (15 : Int32)) (own_rem (p0 &&& (2147483647 : Int32)) (17 : Int32)) q2 q3 q4 q5)), (own_i2b (f1_0 (2 : Int32) (p1 &&& (15 : Int32)) (own_rem (p0 &&& (2147483647 : Int32)) (17 : Int32)) q2 q3 q4 q5)), (own_i2b (f1_0 (3 : Int32) (p1 &&& (15 : Int32)) (own_rem (p0 &&& (2147483647 : Int32)) (17 : Int32)) q2 q3 q4 q5)), (0 : Int32), (0 : Int32), (0 : Int32), (0 : Int32), (0 : Int32), (0 : Int32), (0 : Int32), (0 : Int32), (0 : Int32), (0 : Int32), (0 : Int32), (0 : Int32), (0 : Int32), (0 : Int32), (0 : Int32), (0 : Int32), (0 : Int32), (0 : Int32), (0 : Int32), (0 : Int32), (0 : Int32), (0 : Int32), (0 : Int32), (0 : Int32), (0 : Int32), (0 : Int32), (0 : Int32), (0 : Int32)]) X39 hx hZ e39 A38 ⟨by decide, Nat.le_of_ble_eq_true rfl⟩ (hb hby at_90) rfl rfl fun T40 h40 X40 e40 W40 A40 => ?_
  have Y40 := own_drop X40 g32
  refine o_dup (pc' := 92) Y40 hx (hb hby at_91) rfl rfl ?_
  refine o_iconst (pc' := 93) (x := (4 : Int32)) Y40 hx (hb hby at_92) (by decide) rfl ?_
  refine o_iconst (pc' := 94) (x := (4 : Int32)) Y40 hx (hb hby at_93) (by decide) rfl ?_
  refine o_iload (pc' := 96) Y40 hx (hb hby at_94) rfl rfl ?_
  refine o_iload (pc' := 98) Y40 hx (hb hby at_96) rfl rfl ?_
  refine o_lloadN (pc' := 99) Y40 hx (hb hby at_98) rfl rfl ?_
  refine o_lload (pc' := 101) Y40 hx (hb hby at_99) rfl rfl ?_
  refine o_lload (pc' := 103) Y40 hx (hb hby at_101) rfl rfl ?_
  refine o_lload (pc' := 105) Y40 hx (hb hby at_103) rfl rfl ?_
  refine o_callP (W := 3) (pc' := 108) (argsL := [(.int (4 : Int32)), (.int (p1 &&& (15 : Int32))), (.int (own_rem (p0 &&& (2147483647 : Int32)) (17 : Int32))), (.long q2), (.long q3), (.long q4), (.long q5)]) (rest := [(.int (4 : Int32)), (.ref b32), (.ref b32)]) (st' := [(.int (f1_0 (4 : Int32) (p1 &&& (15 : Int32)) (own_rem (p0 &&& (2147483647 : Int32)) (17 : Int32)) q2 q3 q4 q5)), (.int (4 : Int32)), (.ref b32), (.ref b32)]) Y40 hx hZ e40 hown (hw _ (List.mem_of_getElem? (i := 2) rfl)) (hw _ (List.mem_of_getElem? (i := 3) rfl)) (hw _ (List.mem_of_getElem? (i := 4) rfl)) (hw _ (List.mem_of_getElem? (i := 5) rfl)) (by decide) (rm1 l Z ag hw [] (4 : Int32) (p1 &&& (15 : Int32)) (own_rem (p0 &&& (2147483647 : Int32)) (17 : Int32)) q2 q3 q4 q5 h40) (by decide) (by decide) (by rw [hml]; rfl) pd_2 rfl rfl rfl rfl (hb hby at_105) rfl rfl rfl (by decide) (by decide) rfl fun T41 X41 e41 => ?_
  refine o_bastore (pc' := 109) (vs' := [(own_i2b (f1_0 (0 : Int32) (p1 &&& (15 : Int32)) (own_rem (p0 &&& (2147483647 : Int32)) (17 : Int32)) q2 q3 q4 q5)), (own_i2b (f1_0 (1 : Int32) (p1 &&& (15 : Int32)) (own_rem (p0 &&& (2147483647 : Int32)) (17 : Int32)) q2 q3 q4 q5)), (own_i2b (f1_0 (2 : Int32) (p1 &&& (15 : Int32)) (own_rem (p0 &&& (2147483647 : Int32)) (17 : Int32)) q2 q3 q4 q5)), (own_i2b (f1_0 (3 : Int32) (p1 &&& (15 : Int32)) (own_rem (p0 &&& (2147483647 : Int32)) (17 : Int32)) q2 q3 q4 q5)), (own_i2b (f1_0 (4 : Int32) (p1 &&& (15 : Int32)) (own_rem (p0 &&& (2147483647 : Int32)) (17 : Int32)) q2 q3 q4 q5)), (0 : Int32), (0 : Int32), (0 : Int32), (0 : Int32), (0 : Int32), (0 : Int32), (0 : Int32), (0 : Int32), (0 : Int32), (0 : Int32), (0 : Int32), (0 : Int32), (0 : Int32), (0 : Int32), (0 : Int32), (0 : Int32), (0 : Int32), (0 : Int32), (0 : Int32), (0 : Int32), (0 : Int32), (0 : Int32), (0 : Int32), (0 : Int32), (0 : Int32), (0 : Int32), (0 : Int32)]) X41 hx hZ e41 A40 ⟨by decide, Nat.le_of_ble_eq_true rfl⟩ (hb hby at_108) rfl rfl fun T42 h42 X42 e42 W42 A42 => ?_
  have Y42 := own_drop X42 g32
  refine o_dup (pc' := 110) Y42 hx (hb hby at_109) rfl rfl ?_
  refine o_iconst (pc' := 111) (x := (5 : Int32)) Y42 hx (hb hby at_110) (by decide) rfl ?_
  refine o_iconst (pc' := 112) (x := (5 : Int32)) Y42 hx (hb hby at_111) (by decide) rfl ?_
  refine o_iload (pc' := 114) Y42 hx (hb hby at_112) rfl rfl ?_
  refine o_iload (pc' := 116) Y42 hx (hb hby at_114) rfl rfl ?_
  refine o_lloadN (pc' := 117) Y42 hx (hb hby at_116) rfl rfl ?_
  refine o_lload (pc' := 119) Y42 hx (hb hby at_117) rfl rfl ?_
  refine o_lload (pc' := 121) Y42 hx (hb hby at_119) rfl rfl ?_
  refine o_lload (pc' := 123) Y42 hx (hb hby at_121) rfl rfl ?_
  refine o_callP (W := 3) (pc' := 126) (argsL := [(.int (5 : Int32)), (.int (p1 &&& (15 : Int32))), (.int (own_rem (p0 &&& (2147483647 : Int32)) (17 : Int32))), (.long q2), (.long q3), (.long q4), (.long q5)]) (rest := [(.int (5 : Int32)), (.ref b32), (.ref b32)]) (st' := [(.int (f1_0 (5 : Int32) (p1 &&& (15 : Int32)) (own_rem (p0 &&& (2147483647 : Int32)) (17 : Int32)) q2 q3 q4 q5)), (.int (5 : Int32)), (.ref b32), (.ref b32)]) Y42 hx hZ e42 hown (hw _ (List.mem_of_getElem? (i := 2) rfl)) (hw _ (List.mem_of_getElem? (i := 3) rfl)) (hw _ (List.mem_of_getElem? (i := 4) rfl)) (hw _ (List.mem_of_getElem? (i := 5) rfl)) (by decide) (rm1 l Z ag hw [] (5 : Int32) (p1 &&& (15 : Int32)) (own_rem (p0 &&& (2147483647 : Int32)) (17 : Int32)) q2 q3 q4 q5 h42) (by decide) (by decide) (by rw [hml]; rfl) pd_2 rfl rfl rfl rfl (hb hby at_123) rfl rfl rfl (by decide) (by decide) rfl fun T43 X43 e43 => ?_
  refine o_bastore (pc' := 127) (vs' := [(own_i2b (f1_0 (0 : Int32) (p1 &&& (15 : Int32)) (own_rem (p0 &&& (2147483647 : Int32)) (17 : Int32)) q2 q3 q4 q5)), (own_i2b (f1_0 (1 : Int32) (p1 &&& (15 : Int32)) (own_rem (p0 &&& (2147483647 : Int32)) (17 : Int32)) q2 q3 q4 q5)), (own_i2b (f1_0 (2 : Int32) (p1 &&& (15 : Int32)) (own_rem (p0 &&& (2147483647 : Int32)) (17 : Int32)) q2 q3 q4 q5)), (own_i2b (f1_0 (3 : Int32) (p1 &&& (15 : Int32)) (own_rem (p0 &&& (2147483647 : Int32)) (17 : Int32)) q2 q3 q4 q5)), (own_i2b (f1_0 (4 : Int32) (p1 &&& (15 : Int32)) (own_rem (p0 &&& (2147483647 : Int32)) (17 : Int32)) q2 q3 q4 q5)), (own_i2b (f1_0 (5 : Int32) (p1 &&& (15 : Int32)) (own_rem (p0 &&& (2147483647 : Int32)) (17 : Int32)) q2 q3 q4 q5)), (0 : Int32), (0 : Int32), (0 : Int32), (0 : Int32), (0 : Int32), (0 : Int32), (0 : Int32), (0 : Int32), (0 : Int32), (0 : Int32), (0 : Int32), (0 : Int32), (0 : Int32), (0 : Int32), (0 : Int32), (0 : Int32), (0 : Int32), (0 : Int32), (0 : Int32), (0 : Int32), (0 : Int32), (0 : Int32), (0 : Int32), (0 : Int32), (0 : Int32), (0 : Int32)]) X43 hx hZ e43 A42 ⟨by decide, Nat.le_of_ble_eq_true rfl⟩ (hb hby at_126) rfl rfl fun T44 h44 X44 e44 W44 A44 => ?_
  have Y44 := own_drop X44 g32
  refine o_dup (pc' := 128) Y44 hx (hb hby at_127) rfl rfl ?_
  refine o_bipush (pc' := 130) (x := (6 : Int32)) Y44 hx (hb hby at_128) (by decide) rfl ?_
  refine o_bipush (pc' := 132) (x := (6 : Int32)) Y44 hx (hb hby at_130) (by decide) rfl ?_
  refine o_iload (pc' := 134) Y44 hx (hb hby at_132) rfl rfl ?_
  refine o_iload (pc' := 136) Y44 hx (hb hby at_134) rfl rfl ?_
  refine o_lloadN (pc' := 137) Y44 hx (hb hby at_136) rfl rfl ?_
  refine o_lload (pc' := 139) Y44 hx (hb hby at_137) rfl rfl ?_
  refine o_lload (pc' := 141) Y44 hx (hb hby at_139) rfl rfl ?_
  refine o_lload (pc' := 143) Y44 hx (hb hby at_141) rfl rfl ?_
  refine o_callP (W := 3) (pc' := 146) (argsL := [(.int (6 : Int32)), (.int (p1 &&& (15 : Int32))), (.int (own_rem (p0 &&& (2147483647 : Int32)) (17 : Int32))), (.long q2), (.long q3), (.long q4), (.long q5)]) (rest := [(.int (6 : Int32)), (.ref b32), (.ref b32)]) (st' := [(.int (f1_0 (6 : Int32) (p1 &&& (15 : Int32)) (own_rem (p0 &&& (2147483647 : Int32)) (17 : Int32)) q2 q3 q4 q5)), (.int (6 : Int32)), (.ref b32), (.ref b32)]) Y44 hx hZ e44 hown (hw _ (List.mem_of_getElem? (i := 2) rfl)) (hw _ (List.mem_of_getElem? (i := 3) rfl)) (hw _ (List.mem_of_getElem? (i := 4) rfl)) (hw _ (List.mem_of_getElem? (i := 5) rfl)) (by decide) (rm1 l Z ag hw [] (6 : Int32) (p1 &&& (15 : Int32)) (own_rem (p0 &&& (2147483647 : Int32)) (17 : Int32)) q2 q3 q4 q5 h44) (by decide) (by decide) (by rw [hml]; rfl) pd_2 rfl rfl rfl rfl (hb hby at_143) rfl rfl rfl (by decide) (by decide) rfl fun T45 X45 e45 => ?_
  refine o_bastore (pc' := 147) (vs' := [(own_i2b (f1_0 (0 : Int32) (p1 &&& (15 : Int32)) (own_rem (p0 &&& (2147483647 : Int32)) (17 : Int32)) q2 q3 q4 q5)), (own_i2b (f1_0 (1 : Int32) (p1 &&& (15 : Int32)) (own_rem (p0 &&& (2147483647 : Int32)) (17 : Int32)) q2 q3 q4 q5)), (own_i2b (f1_0 (2 : Int32) (p1 &&& (15 : Int32)) (own_rem (p0 &&& (2147483647 : Int32)) (17 : Int32)) q2 q3 q4 q5)), (own_i2b (f1_0 (3 : Int32) (p1 &&& (15 : Int32)) (own_rem (p0 &&& (2147483647 : Int32)) (17 : Int32)) q2 q3 q4 q5)), (own_i2b (f1_0 (4 : Int32) (p1 &&& (15 : Int32)) (own_rem (p0 &&& (2147483647 : Int32)) (17 : Int32)) q2 q3 q4 q5)), (own_i2b (f1_0 (5 : Int32) (p1 &&& (15 : Int32)) (own_rem (p0 &&& (2147483647 : Int32)) (17 : Int32)) q2 q3 q4 q5)), (own_i2b (f1_0 (6 : Int32) (p1 &&& (15 : Int32)) (own_rem (p0 &&& (2147483647 : Int32)) (17 : Int32)) q2 q3 q4 q5)), (0 : Int32), (0 : Int32), (0 : Int32), (0 : Int32), (0 : Int32), (0 : Int32), (0 : Int32), (0 : Int32), (0 : Int32), (0 : Int32), (0 : Int32), (0 : Int32), (0 : Int32), (0 : Int32), (0 : Int32), (0 : Int32), (0 : Int32), (0 : Int32), (0 : Int32), (0 : Int32), (0 : Int32), (0 : Int32), (0 : Int32), (0 : Int32), (0 : Int32)]) X45 hx hZ e45 A44 ⟨by decide, Nat.le_of_ble_eq_true rfl⟩ (hb hby at_146) rfl rfl fun T46 h46 X46 e46 W46 A46 => ?_
  have Y46 := own_drop X46 g32
  refine o_dup (pc' := 148) Y46 hx (hb hby at_147) rfl rfl ?_
  refine o_bipush (pc' := 150) (x := (7 : Int32)) Y46 hx (hb hby at_148) (by decide) rfl ?_
  refine o_bipush (pc' := 152) (x := (7 : Int32)) Y46 hx (hb hby at_150) (by decide) rfl ?_
  refine o_iload (pc' := 154) Y46 hx (hb hby at_152) rfl rfl ?_
  refine o_iload (pc' := 156) Y46 hx (hb hby at_154) rfl rfl ?_
  refine o_lloadN (pc' := 157) Y46 hx (hb hby at_156) rfl rfl ?_
  refine o_lload (pc' := 159) Y46 hx (hb hby at_157) rfl rfl ?_
  refine o_lload (pc' := 161) Y46 hx (hb hby at_159) rfl rfl ?_
  refine o_lload (pc' := 163) Y46 hx (hb hby at_161) rfl rfl ?_
  refine o_callP (W := 3) (pc' := 166) (argsL := [(.int (7 : Int32)), (.int (p1 &&& (15 : Int32))), (.int (own_rem (p0 &&& (2147483647 : Int32)) (17 : Int32))), (.long q2), (.long q3), (.long q4), (.long q5)]) (rest := [(.int (7 : Int32)), (.ref b32), (.ref b32)]) (st' := [(.int (f1_0 (7 : Int32) (p1 &&& (15 : Int32)) (own_rem (p0 &&& (2147483647 : Int32)) (17 : Int32)) q2 q3 q4 q5)), (.int (7 : Int32)), (.ref b32), (.ref b32)]) Y46 hx hZ e46 hown (hw _ (List.mem_of_getElem? (i := 2) rfl)) (hw _ (List.mem_of_getElem? (i := 3) rfl)) (hw _ (List.mem_of_getElem? (i := 4) rfl)) (hw _ (List.mem_of_getElem? (i := 5) rfl)) (by decide) (rm1 l Z ag hw [] (7 : Int32) (p1 &&& (15 : Int32)) (own_rem (p0 &&& (2147483647 : Int32)) (17 : Int32)) q2 q3 q4 q5 h46) (by decide) (by decide) (by rw [hml]; rfl) pd_2 rfl rfl rfl rfl (hb hby at_163) rfl rfl rfl (by decide) (by decide) rfl fun T47 X47 e47 => ?_
  refine o_bastore (pc' := 167) (vs' := [(own_i2b (f1_0 (0 : Int32) (p1 &&& (15 : Int32)) (own_rem (p0 &&& (2147483647 : Int32)) (17 : Int32)) q2 q3 q4 q5)), (own_i2b (f1_0 (1 : Int32) (p1 &&& (15 : Int32)) (own_rem (p0 &&& (2147483647 : Int32)) (17 : Int32)) q2 q3 q4 q5)), (own_i2b (f1_0 (2 : Int32) (p1 &&& (15 : Int32)) (own_rem (p0 &&& (2147483647 : Int32)) (17 : Int32)) q2 q3 q4 q5)), (own_i2b (f1_0 (3 : Int32) (p1 &&& (15 : Int32)) (own_rem (p0 &&& (2147483647 : Int32)) (17 : Int32)) q2 q3 q4 q5)), (own_i2b (f1_0 (4 : Int32) (p1 &&& (15 : Int32)) (own_rem (p0 &&& (2147483647 : Int32)) (17 : Int32)) q2 q3 q4 q5)), (own_i2b (f1_0 (5 : Int32) (p1 &&& (15 : Int32)) (own_rem (p0 &&& (2147483647 : Int32)) (17 : Int32)) q2 q3 q4 q5)), (own_i2b (f1_0 (6 : Int32) (p1 &&& (15 : Int32)) (own_rem (p0 &&& (2147483647 : Int32)) (17 : Int32)) q2 q3 q4 q5)), (own_i2b (f1_0 (7 : Int32) (p1 &&& (15 : Int32)) (own_rem (p0 &&& (2147483647 : Int32)) (17 : Int32)) q2 q3 q4 q5)), (0 : Int32), (0 : Int32), (0 : Int32), (0 : Int32), (0 : Int32), (0 : Int32), (0 : Int32), (0 : Int32), (0 : Int32), (0 : Int32), (0 : Int32), (0 : Int32), (0 : Int32), (0 : Int32), (0 : Int32), (0 : Int32), (0 : Int32), (0 : Int32), (0 : Int32), (0 : Int32), (0 : Int32), (0 : Int32), (0 : Int32), (0 : Int32)]) X47 hx hZ e47 A46 ⟨by decide, Nat.le_of_ble_eq_true rfl⟩ (hb hby at_166) rfl rfl fun T48 h48 X48 e48 W48 A48 => ?_
  have Y48 := own_drop X48 g32
  refine o_dup (pc' := 168) Y48 hx (hb hby at_167) rfl rfl ?_
  refine o_bipush (pc' := 170) (x := (8 : Int32)) Y48 hx (hb hby at_168) (by decide) rfl ?_
  refine o_bipush (pc' := 172) (x := (8 : Int32)) Y48 hx (hb hby at_170) (by decide) rfl ?_
  refine o_iload (pc' := 174) Y48 hx (hb hby at_172) rfl rfl ?_
  refine o_iload (pc' := 176) Y48 hx (hb hby at_174) rfl rfl ?_
  refine o_lloadN (pc' := 177) Y48 hx (hb hby at_176) rfl rfl ?_
  refine o_lload (pc' := 179) Y48 hx (hb hby at_177) rfl rfl ?_
  refine o_lload (pc' := 181) Y48 hx (hb hby at_179) rfl rfl ?_
  refine o_lload (pc' := 183) Y48 hx (hb hby at_181) rfl rfl ?_
  refine o_callP (W := 3) (pc' := 186) (argsL := [(.int (8 : Int32)), (.int (p1 &&& (15 : Int32))), (.int (own_rem (p0 &&& (2147483647 : Int32)) (17 : Int32))), (.long q2), (.long q3), (.long q4), (.long q5)]) (rest := [(.int (8 : Int32)), (.ref b32), (.ref b32)]) (st' := [(.int (f1_0 (8 : Int32) (p1 &&& (15 : Int32)) (own_rem (p0 &&& (2147483647 : Int32)) (17 : Int32)) q2 q3 q4 q5)), (.int (8 : Int32)), (.ref b32), (.ref b32)]) Y48 hx hZ e48 hown (hw _ (List.mem_of_getElem? (i := 2) rfl)) (hw _ (List.mem_of_getElem? (i := 3) rfl)) (hw _ (List.mem_of_getElem? (i := 4) rfl)) (hw _ (List.mem_of_getElem? (i := 5) rfl)) (by decide) (rm1 l Z ag hw [] (8 : Int32) (p1 &&& (15 : Int32)) (own_rem (p0 &&& (2147483647 : Int32)) (17 : Int32)) q2 q3 q4 q5 h48) (by decide) (by decide) (by rw [hml]; rfl) pd_2 rfl rfl rfl rfl (hb hby at_183) rfl rfl rfl (by decide) (by decide) rfl fun T49 X49 e49 => ?_
  refine o_bastore (pc' := 187) (vs' := [(own_i2b (f1_0 (0 : Int32) (p1 &&& (15 : Int32)) (own_rem (p0 &&& (2147483647 : Int32)) (17 : Int32)) q2 q3 q4 q5)), (own_i2b (f1_0 (1 : Int32) (p1 &&& (15 : Int32)) (own_rem (p0 &&& (2147483647 : Int32)) (17 : Int32)) q2 q3 q4 q5)), (own_i2b (f1_0 (2 : Int32) (p1 &&& (15 : Int32)) (own_rem (p0 &&& (2147483647 : Int32)) (17 : Int32)) q2 q3 q4 q5)), (own_i2b (f1_0 (3 : Int32) (p1 &&& (15 : Int32)) (own_rem (p0 &&& (2147483647 : Int32)) (17 : Int32)) q2 q3 q4 q5)), (own_i2b (f1_0 (4 : Int32) (p1 &&& (15 : Int32)) (own_rem (p0 &&& (2147483647 : Int32)) (17 : Int32)) q2 q3 q4 q5)), (own_i2b (f1_0 (5 : Int32) (p1 &&& (15 : Int32)) (own_rem (p0 &&& (2147483647 : Int32)) (17 : Int32)) q2 q3 q4 q5)), (own_i2b (f1_0 (6 : Int32) (p1 &&& (15 : Int32)) (own_rem (p0 &&& (2147483647 : Int32)) (17 : Int32)) q2 q3 q4 q5)), (own_i2b (f1_0 (7 : Int32) (p1 &&& (15 : Int32)) (own_rem (p0 &&& (2147483647 : Int32)) (17 : Int32)) q2 q3 q4 q5)), (own_i2b (f1_0 (8 : Int32) (p1 &&& (15 : Int32)) (own_rem (p0 &&& (2147483647 : Int32)) (17 : Int32)) q2 q3 q4 q5)), (0 : Int32), (0 : Int32), (0 : Int32), (0 : Int32), (0 : Int32), (0 : Int32), (0 : Int32), (0 : Int32), (0 : Int32), (0 : Int32), (0 : Int32), (0 : Int32), (0 : Int32), (0 : Int32), (0 : Int32), (0 : Int32), (0 : Int32), (0 : Int32), (0 : Int32), (0 : Int32), (0 : Int32), (0 : Int32), (0 : Int32)]) X49 hx hZ e49 A48 ⟨by decide, Nat.le_of_ble_eq_true rfl⟩ (hb hby at_186) rfl rfl fun T50 h50 X50 e50 W50 A50 => ?_
  have Y50 := own_drop X50 g32
  refine o_dup (pc' := 188) Y50 hx (hb hby at_187) rfl rfl ?_
  refine o_bipush (pc' := 190) (x := (9 : Int32)) Y50 hx (hb hby at_188) (by decide) rfl ?_
  refine o_bipush (pc' := 192) (x := (9 : Int32)) Y50 hx (hb hby at_190) (by decide) rfl ?_
  refine o_iload (pc' := 194) Y50 hx (hb hby at_192) rfl rfl ?_
  refine o_iload (pc' := 196) Y50 hx (hb hby at_194) rfl rfl ?_
  refine o_lloadN (pc' := 197) Y50 hx (hb hby at_196) rfl rfl ?_
  refine o_lload (pc' := 199) Y50 hx (hb hby at_197) rfl rfl ?_
  refine o_lload (pc' := 201) Y50 hx (hb hby at_199) rfl rfl ?_
  refine o_lload (pc' := 203) Y50 hx (hb hby at_201) rfl rfl ?_
  refine o_callP (W := 3) (pc' := 206) (argsL := [(.int (9 : Int32)), (.int (p1 &&& (15 : Int32))), (.int (own_rem (p0 &&& (2147483647 : Int32)) (17 : Int32))), (.long q2), (.long q3), (.long q4), (.long q5)]) (rest := [(.int (9 : Int32)), (.ref b32), (.ref b32)]) (st' := [(.int (f1_0 (9 : Int32) (p1 &&& (15 : Int32)) (own_rem (p0 &&& (2147483647 : Int32)) (17 : Int32)) q2 q3 q4 q5)), (.int (9 : Int32)), (.ref b32), (.ref b32)]) Y50 hx hZ e50 hown (hw _ (List.mem_of_getElem? (i := 2) rfl)) (hw _ (List.mem_of_getElem? (i := 3) rfl)) (hw _ (List.mem_of_getElem? (i := 4) rfl)) (hw _ (List.mem_of_getElem? (i := 5) rfl)) (by decide) (rm1 l Z ag hw [] (9 : Int32) (p1 &&& (15 : Int32)) (own_rem (p0 &&& (2147483647 : Int32)) (17 : Int32)) q2 q3 q4 q5 h50) (by decide) (by decide) (by rw [hml]; rfl) pd_2 rfl rfl rfl rfl (hb hby at_203) rfl rfl rfl (by decide) (by decide) rfl fun T51 X51 e51 => ?_
  refine o_bastore (pc' := 207) (vs' := [(own_i2b (f1_0 (0 : Int32) (p1 &&& (15 : Int32)) (own_rem (p0 &&& (2147483647 : Int32)) (17 : Int32)) q2 q3 q4 q5)), (own_i2b (f1_0 (1 : Int32) (p1 &&& (15 : Int32)) (own_rem (p0 &&& (2147483647 : Int32)) (17 : Int32)) q2 q3 q4 q5)), (own_i2b (f1_0 (2 : Int32) (p1 &&& (15 : Int32)) (own_rem (p0 &&& (2147483647 : Int32)) (17 : Int32)) q2 q3 q4 q5)), (own_i2b (f1_0 (3 : Int32) (p1 &&& (15 : Int32)) (own_rem (p0 &&& (2147483647 : Int32)) (17 : Int32)) q2 q3 q4 q5)), (own_i2b (f1_0 (4 : Int32) (p1 &&& (15 : Int32)) (own_rem (p0 &&& (2147483647 : Int32)) (17 : Int32)) q2 q3 q4 q5)), (own_i2b (f1_0 (5 : Int32) (p1 &&& (15 : Int32)) (own_rem (p0 &&& (2147483647 : Int32)) (17 : Int32)) q2 q3 q4 q5)), (own_i2b (f1_0 (6 : Int32) (p1 &&& (15 : Int32)) (own_rem (p0 &&& (2147483647 : Int32)) (17 : Int32)) q2 q3 q4 q5)), (own_i2b (f1_0 (7 : Int32) (p1 &&& (15 : Int32)) (own_rem (p0 &&& (2147483647 : Int32)) (17 : Int32)) q2 q3 q4 q5)), (own_i2b (f1_0 (8 : Int32) (p1 &&& (15 : Int32)) (own_rem (p0 &&& (2147483647 : Int32)) (17 : Int32)) q2 q3 q4 q5)), (own_i2b (f1_0 (9 : Int32) (p1 &&& (15 : Int32)) (own_rem (p0 &&& (2147483647 : Int32)) (17 : Int32)) q2 q3 q4 q5)), (0 : Int32), (0 : Int32), (0 : Int32), (0 : Int32), (0 : Int32), (0 : Int32), (0 : Int32), (0 : Int32), (0 : Int32), (0 : Int32), (0 : Int32), (0 : Int32), (0 : Int32), (0 : Int32), (0 : Int32), (0 : Int32), (0 : Int32), (0 : Int32), (0 : Int32), (0 : Int32), (0 : Int32), (0 : Int32)]) X51 hx hZ e51 A50 ⟨by decide, Nat.le_of_ble_eq_true rfl⟩ (hb hby at_206) rfl rfl fun T52 h52 X52 e52 W52 A52 => ?_
  have Y52 := own_drop X52 g32
  refine o_dup (pc' := 208) Y52 hx (hb hby at_207) rfl rfl ?_
  refine o_bipush (pc' := 210) (x := (10 : Int32)) Y52 hx (hb hby at_208) (by decide) rfl ?_
  refine o_bipush (pc' := 212) (x := (10 : Int32)) Y52 hx (hb hby at_210) (by decide) rfl ?_
  refine o_iload (pc' := 214) Y52 hx (hb hby at_212) rfl rfl ?_
  refine o_iload (pc' := 216) Y52 hx (hb hby at_214) rfl rfl ?_
  refine o_lloadN (pc' := 217) Y52 hx (hb hby at_216) rfl rfl ?_
  refine o_lload (pc' := 219) Y52 hx (hb hby at_217) rfl rfl ?_
  refine o_lload (pc' := 221) Y52 hx (hb hby at_219) rfl rfl ?_
  refine o_lload (pc' := 223) Y52 hx (hb hby at_221) rfl rfl ?_
  refine o_callP (W := 3) (pc' := 226) (argsL := [(.int (10 : Int32)), (.int (p1 &&& (15 : Int32))), (.int (own_rem (p0 &&& (2147483647 : Int32)) (17 : Int32))), (.long q2), (.long q3), (.long q4), (.long q5)]) (rest := [(.int (10 : Int32)), (.ref b32), (.ref b32)]) (st' := [(.int (f1_0 (10 : Int32) (p1 &&& (15 : Int32)) (own_rem (p0 &&& (2147483647 : Int32)) (17 : Int32)) q2 q3 q4 q5)), (.int (10 : Int32)), (.ref b32), (.ref b32)]) Y52 hx hZ e52 hown (hw _ (List.mem_of_getElem? (i := 2) rfl)) (hw _ (List.mem_of_getElem? (i := 3) rfl)) (hw _ (List.mem_of_getElem? (i := 4) rfl)) (hw _ (List.mem_of_getElem? (i := 5) rfl)) (by decide) (rm1 l Z ag hw [] (10 : Int32) (p1 &&& (15 : Int32)) (own_rem (p0 &&& (2147483647 : Int32)) (17 : Int32)) q2 q3 q4 q5 h52) (by decide) (by decide) (by rw [hml]; rfl) pd_2 rfl rfl rfl rfl (hb hby at_223) rfl rfl rfl (by decide) (by decide) rfl fun T53 X53 e53 => ?_
  refine o_bastore (pc' := 227) (vs' := [(own_i2b (f1_0 (0 : Int32) (p1 &&& (15 : Int32)) (own_rem (p0 &&& (2147483647 : Int32)) (17 : Int32)) q2 q3 q4 q5)), (own_i2b (f1_0 (1 : Int32) (p1 &&& (15 : Int32)) (own_rem (p0 &&& (2147483647 : Int32)) (17 : Int32)) q2 q3 q4 q5)), (own_i2b (f1_0 (2 : Int32) (p1 &&& (15 : Int32)) (own_rem (p0 &&& (2147483647 : Int32)) (17 : Int32)) q2 q3 q4 q5)), (own_i2b (f1_0 (3 : Int32) (p1 &&& (15 : Int32)) (own_rem (p0 &&& (2147483647 : Int32)) (17 : Int32)) q2 q3 q4 q5)), (own_i2b (f1_0 (4 : Int32) (p1 &&& (15 : Int32)) (own_rem (p0 &&& (2147483647 : Int32)) (17 : Int32)) q2 q3 q4 q5)), (own_i2b (f1_0 (5 : Int32) (p1 &&& (15 : Int32)) (own_rem (p0 &&& (2147483647 : Int32)) (17 : Int32)) q2 q3 q4 q5)), (own_i2b (f1_0 (6 : Int32) (p1 &&& (15 : Int32)) (own_rem (p0 &&& (2147483647 : Int32)) (17 : Int32)) q2 q3 q4 q5)), (own_i2b (f1_0 (7 : Int32) (p1 &&& (15 : Int32)) (own_rem (p0 &&& (2147483647 : Int32)) (17 : Int32)) q2 q3 q4 q5)), (own_i2b (f1_0 (8 : Int32) (p1 &&& (15 : Int32)) (own_rem (p0 &&& (2147483647 : Int32)) (17 : Int32)) q2 q3 q4 q5)), (own_i2b (f1_0 (9 : Int32) (p1 &&& (15 : Int32)) (own_rem (p0 &&& (2147483647 : Int32)) (17 : Int32)) q2 q3 q4 q5)), (own_i2b (f1_0 (10 : Int32) (p1 &&& (15 : Int32)) (own_rem (p0 &&& (2147483647 : Int32)) (17 : Int32)) q2 q3 q4 q5)), (0 : Int32), (0 : Int32), (0 : Int32), (0 : Int32), (0 : Int32), (0 : Int32), (0 : Int32), (0 : Int32), (0 : Int32), (0 : Int32), (0 : Int32), (0 : Int32), (0 : Int32), (0 : Int32), (0 : Int32), (0 : Int32), (0 : Int32), (0 : Int32), (0 : Int32), (0 : Int32), (0 : Int32)]) X53 hx hZ e53 A52 ⟨by decide, Nat.le_of_ble_eq_true rfl⟩ (hb hby at_226) rfl rfl fun T54 h54 X54 e54 W54 A54 => ?_
  have Y54 := own_drop X54 g32
  refine o_dup (pc' := 228) Y54 hx (hb hby at_227) rfl rfl ?_
  refine o_bipush (pc' := 230) (x := (11 : Int32)) Y54 hx (hb hby at_228) (by decide) rfl ?_
  refine o_bipush (pc' := 232) (x := (11 : Int32)) Y54 hx (hb hby at_230) (by decide) rfl ?_
  refine o_iload (pc' := 234) Y54 hx (hb hby at_232) rfl rfl ?_
  refine o_iload (pc' := 236) Y54 hx (hb hby at_234) rfl rfl ?_
  refine o_lloadN (pc' := 237) Y54 hx (hb hby at_236) rfl rfl ?_
  refine o_lload (pc' := 239) Y54 hx (hb hby at_237) rfl rfl ?_
  refine o_lload (pc' := 241) Y54 hx (hb hby at_239) rfl rfl ?_
  refine o_lload (pc' := 243) Y54 hx (hb hby at_241) rfl rfl ?_
  refine o_callP (W := 3) (pc' := 246) (argsL := [(.int (11 : Int32)), (.int (p1 &&& (15 : Int32))), (.int (own_rem (p0 &&& (2147483647 : Int32)) (17 : Int32))), (.long q2), (.long q3), (.long q4), (.long q5)]) (rest := [(.int (11 : Int32)), (.ref b32), (.ref b32)]) (st' := [(.int (f1_0 (11 : Int32) (p1 &&& (15 : Int32)) (own_rem (p0 &&& (2147483647 : Int32)) (17 : Int32)) q2 q3 q4 q5)), (.int (11 : Int32)), (.ref b32), (.ref b32)]) Y54 hx hZ e54 hown (hw _ (List.mem_of_getElem? (i := 2) rfl)) (hw _ (List.mem_of_getElem? (i := 3) rfl)) (hw _ (List.mem_of_getElem? (i := 4) rfl)) (hw _ (List.mem_of_getElem? (i := 5) rfl)) (by decide) (rm1 l Z ag hw [] (11 : Int32) (p1 &&& (15 : Int32)) (own_rem (p0 &&& (2147483647 : Int32)) (17 : Int32)) q2 q3 q4 q5 h54) (by decide) (by decide) (by rw [hml]; rfl) pd_2 rfl rfl rfl rfl (hb hby at_243) rfl rfl rfl (by decide) (by decide) rfl fun T55 X55 e55 => ?_
  refine o_bastore (pc' := 247) (vs' := [(own_i2b (f1_0 (0 : Int32) (p1 &&& (15 : Int32)) (own_rem (p0 &&& (2147483647 : Int32)) (17 : Int32)) q2 q3 q4 q5)), (own_i2b (f1_0 (1 : Int32) (p1 &&& (15 : Int32)) (own_rem (p0 &&& (2147483647 : Int32)) (17 : Int32)) q2 q3 q4 q5)), (own_i2b (f1_0 (2 : Int32) (p1 &&& (15 : Int32)) (own_rem (p0 &&& (2147483647 : Int32)) (17 : Int32)) q2 q3 q4 q5)), (own_i2b (f1_0 (3 : Int32) (p1 &&& (15 : Int32)) (own_rem (p0 &&& (2147483647 : Int32)) (17 : Int32)) q2 q3 q4 q5)), (own_i2b (f1_0 (4 : Int32) (p1 &&& (15 : Int32)) (own_rem (p0 &&& (2147483647 : Int32)) (17 : Int32)) q2 q3 q4 q5)), (own_i2b (f1_0 (5 : Int32) (p1 &&& (15 : Int32)) (own_rem (p0 &&& (2147483647 : Int32)) (17 : Int32)) q2 q3 q4 q5)), (own_i2b (f1_0 (6 : Int32) (p1 &&& (15 : Int32)) (own_rem (p0 &&& (2147483647 : Int32)) (17 : Int32)) q2 q3 q4 q5)), (own_i2b (f1_0 (7 : Int32) (p1 &&& (15 : Int32)) (own_rem (p0 &&& (2147483647 : Int32)) (17 : Int32)) q2 q3 q4 q5)), (own_i2b (f1_0 (8 : Int32) (p1 &&& (15 : Int32)) (own_rem (p0 &&& (2147483647 : Int32)) (17 : Int32)) q2 q3 q4 q5)), (own_i2b (f1_0 (9 : Int32) (p1 &&& (15 : Int32)) (own_rem (p0 &&& (2147483647 : Int32)) (17 : Int32)) q2 q3 q4 q5)), (own_i2b (f1_0 (10 : Int32) (p1 &&& (15 : Int32)) (own_rem (p0 &&& (2147483647 : Int32)) (17 : Int32)) q2 q3 q4 q5)), (own_i2b (f1_0 (11 : Int32) (p1 &&& (15 : Int32)) (own_rem (p0 &&& (2147483647 : Int32)) (17 : Int32)) q2 q3 q4 q5)), (0 : Int32), (0 : Int32), (0 : Int32), (0 : Int32), (0 : Int32), (0 : Int32), (0 : Int32), (0 : Int32), (0 : Int32), (0 : Int32), (0 : Int32), (0 : Int32), (0 : Int32), (0 : Int32), (0 : Int32), (0 : Int32), (0 : Int32), (0 : Int32), (0 : Int32), (0 : Int32)]) X55 hx hZ e55 A54 ⟨by decide, Nat.le_of_ble_eq_true rfl⟩ (hb hby at_246) rfl rfl fun T56 h56 X56 e56 W56 A56 => ?_
  have Y56 := own_drop X56 g32
  refine o_dup (pc' := 248) Y56 hx (hb hby at_247) rfl rfl ?_
  refine o_bipush (pc' := 250) (x := (12 : Int32)) Y56 hx (hb hby at_248) (by decide) rfl ?_
  refine o_bipush (pc' := 252) (x := (12 : Int32)) Y56 hx (hb hby at_250) (by decide) rfl ?_
  refine o_iload (pc' := 254) Y56 hx (hb hby at_252) rfl rfl ?_
  refine o_iload (pc' := 256) Y56 hx (hb hby at_254) rfl rfl ?_
  refine o_lloadN (pc' := 257) Y56 hx (hb hby at_256) rfl rfl ?_
  refine o_lload (pc' := 259) Y56 hx (hb hby at_257) rfl rfl ?_
  refine o_lload (pc' := 261) Y56 hx (hb hby at_259) rfl rfl ?_
  refine o_lload (pc' := 263) Y56 hx (hb hby at_261) rfl rfl ?_
  refine o_callP (W := 3) (pc' := 266) (argsL := [(.int (12 : Int32)), (.int (p1 &&& (15 : Int32))), (.int (own_rem (p0 &&& (2147483647 : Int32)) (17 : Int32))), (.long q2), (.long q3), (.long q4), (.long q5)]) (rest := [(.int (12 : Int32)), (.ref b32), (.ref b32)]) (st' := [(.int (f1_0 (12 : Int32) (p1 &&& (15 : Int32)) (own_rem (p0 &&& (2147483647 : Int32)) (17 : Int32)) q2 q3 q4 q5)), (.int (12 : Int32)), (.ref b32), (.ref b32)]) Y56 hx hZ e56 hown (hw _ (List.mem_of_getElem? (i := 2) rfl)) (hw _ (List.mem_of_getElem? (i := 3) rfl)) (hw _ (List.mem_of_getElem? (i := 4) rfl)) (hw _ (List.mem_of_getElem? (i := 5) rfl)) (by decide) (rm1 l Z ag hw [] (12 : Int32) (p1 &&& (15 : Int32)) (own_rem (p0 &&& (2147483647 : Int32)) (17 : Int32)) q2 q3 q4 q5 h56) (by decide) (by decide) (by rw [hml]; rfl) pd_2 rfl rfl rfl rfl (hb hby at_263) rfl rfl rfl (by decide) (by decide) rfl fun T57 X57 e57 => ?_
  refine o_bastore (pc' := 267) (vs' := [(own_i2b (f1_0 (0 : Int32) (p1 &&& (15 : Int32)) (own_rem (p0 &&& (2147483647 : Int32)) (17 : Int32)) q2 q3 q4 q5)), (own_i2b (f1_0 (1 : Int32) (p1 &&& (15 : Int32)) (own_rem (p0 &&& (2147483647 : Int32)) (17 : Int32)) q2 q3 q4 q5)), (own_i2b (f1_0 (2 : Int32) (p1 &&& (15 : Int32)) (own_rem (p0 &&& (2147483647 : Int32)) (17 : Int32)) q2 q3 q4 q5)), (own_i2b (f1_0 (3 : Int32) (p1 &&& (15 : Int32)) (own_rem (p0 &&& (2147483647 : Int32)) (17 : Int32)) q2 q3 q4 q5)), (own_i2b (f1_0 (4 : Int32) (p1 &&& (15 : Int32)) (own_rem (p0 &&& (2147483647 : Int32)) (17 : Int32)) q2 q3 q4 q5)), (own_i2b (f1_0 (5 : Int32) (p1 &&& (15 : Int32)) (own_rem (p0 &&& (2147483647 : Int32)) (17 : Int32)) q2 q3 q4 q5)), (own_i2b (f1_0 (6 : Int32) (p1 &&& (15 : Int32)) (own_rem (p0 &&& (2147483647 : Int32)) (17 : Int32)) q2 q3 q4 q5)), (own_i2b (f1_0 (7 : Int32) (p1 &&& (15 : Int32)) (own_rem (p0 &&& (2147483647 : Int32)) (17 : Int32)) q2 q3 q4 q5)), (own_i2b (f1_0 (8 : Int32) (p1 &&& (15 : Int32)) (own_rem (p0 &&& (2147483647 : Int32)) (17 : Int32)) q2 q3 q4 q5)), (own_i2b (f1_0 (9 : Int32) (p1 &&& (15 : Int32)) (own_rem (p0 &&& (2147483647 : Int32)) (17 : Int32)) q2 q3 q4 q5)), (own_i2b (f1_0 (10 : Int32) (p1 &&& (15 : Int32)) (own_rem (p0 &&& (2147483647 : Int32)) (17 : Int32)) q2 q3 q4 q5)), (own_i2b (f1_0 (11 : Int32) (p1 &&& (15 : Int32)) (own_rem (p0 &&& (2147483647 : Int32)) (17 : Int32)) q2 q3 q4 q5)), (own_i2b (f1_0 (12 : Int32) (p1 &&& (15 : Int32)) (own_rem (p0 &&& (2147483647 : Int32)) (17 : Int32)) q2 q3 q4 q5)), (0 : Int32), (0 : Int32), (0 : Int32), (0 : Int32), (0 : Int32), (0 : Int32), (0 : Int32), (0 : Int32), (0 : Int32), (0 : Int32), (0 : Int32), (0 : Int32), (0 : Int32), (0 : Int32), (0 : Int32), (0 : Int32), (0 : Int32), (0 : Int32), (0 : Int32)]) X57 hx hZ e57 A56 ⟨by decide, Nat.le_of_ble_eq_true rfl⟩ (hb hby at_266) rfl rfl fun T58 h58 X58 e58 W58 A58 => ?_
  have Y58 := own_drop X58 g32
  refine o_dup (pc' := 268) Y58 hx (hb hby at_267) rfl rfl ?_
  refine o_bipush (pc' := 270) (x := (13 : Int32)) Y58 hx (hb hby at_268) (by decide) rfl ?_
  refine o_bipush (pc' := 272) (x := (13 : Int32)) Y58 hx (hb hby at_270) (by decide) rfl ?_
  refine o_iload (pc' := 274) Y58 hx (hb hby at_272) rfl rfl ?_
  refine o_iload (pc' := 276) Y58 hx (hb hby at_274) rfl rfl ?_
  refine o_lloadN (pc' := 277) Y58 hx (hb hby at_276) rfl rfl ?_
  refine o_lload (pc' := 279) Y58 hx (hb hby at_277) rfl rfl ?_
  refine o_lload (pc' := 281) Y58 hx (hb hby at_279) rfl rfl ?_
  refine o_lload (pc' := 283) Y58 hx (hb hby at_281) rfl rfl ?_
  refine o_callP (W := 3) (pc' := 286) (argsL := [(.int (13 : Int32)), (.int (p1 &&& (15 : Int32))), (.int (own_rem (p0 &&& (2147483647 : Int32)) (17 : Int32))), (.long q2), (.long q3), (.long q4), (.long q5)]) (rest := [(.int (13 : Int32)), (.ref b32), (.ref b32)]) (st' := [(.int (f1_0 (13 : Int32) (p1 &&& (15 : Int32)) (own_rem (p0 &&& (2147483647 : Int32)) (17 : Int32)) q2 q3 q4 q5)), (.int (13 : Int32)), (.ref b32), (.ref b32)]) Y58 hx hZ e58 hown (hw _ (List.mem_of_getElem? (i := 2) rfl)) (hw _ (List.mem_of_getElem? (i := 3) rfl)) (hw _ (List.mem_of_getElem? (i := 4) rfl)) (hw _ (List.mem_of_getElem? (i := 5) rfl)) (by decide) (rm1 l Z ag hw [] (13 : Int32) (p1 &&& (15 : Int32)) (own_rem (p0 &&& (2147483647 : Int32)) (17 : Int32)) q2 q3 q4 q5 h58) (by decide) (by decide) (by rw [hml]; rfl) pd_2 rfl rfl rfl rfl (hb hby at_283) rfl rfl rfl (by decide) (by decide) rfl fun T59 X59 e59 => ?_
  refine o_bastore (pc' := 287) (vs' := [(own_i2b (f1_0 (0 : Int32) (p1 &&& (15 : Int32)) (own_rem (p0 &&& (2147483647 : Int32)) (17 : Int32)) q2 q3 q4 q5)), (own_i2b (f1_0 (1 : Int32) (p1 &&& (15 : Int32)) (own_rem (p0 &&& (2147483647 : Int32)) (17 : Int32)) q2 q3 q4 q5)), (own_i2b (f1_0 (2 : Int32) (p1 &&& (15 : Int32)) (own_rem (p0 &&& (2147483647 : Int32)) (17 : Int32)) q2 q3 q4 q5)), (own_i2b (f1_0 (3 : Int32) (p1 &&& (15 : Int32)) (own_rem (p0 &&& (2147483647 : Int32)) (17 : Int32)) q2 q3 q4 q5)), (own_i2b (f1_0 (4 : Int32) (p1 &&& (15 : Int32)) (own_rem (p0 &&& (2147483647 : Int32)) (17 : Int32)) q2 q3 q4 q5)), (own_i2b (f1_0 (5 : Int32) (p1 &&& (15 : Int32)) (own_rem (p0 &&& (2147483647 : Int32)) (17 : Int32)) q2 q3 q4 q5)), (own_i2b (f1_0 (6 : Int32) (p1 &&& (15 : Int32)) (own_rem (p0 &&& (2147483647 : Int32)) (17 : Int32)) q2 q3 q4 q5)), (own_i2b (f1_0 (7 : Int32) (p1 &&& (15 : Int32)) (own_rem (p0 &&& (2147483647 : Int32)) (17 : Int32)) q2 q3 q4 q5)), (own_i2b (f1_0 (8 : Int32) (p1 &&& (15 : Int32)) (own_rem (p0 &&& (2147483647 : Int32)) (17 : Int32)) q2 q3 q4 q5)), (own_i2b (f1_0 (9 : Int32) (p1 &&& (15 : Int32)) (own_rem (p0 &&& (2147483647 : Int32)) (17 : Int32)) q2 q3 q4 q5)), (own_i2b (f1_0 (10 : Int32) (p1 &&& (15 : Int32)) (own_rem (p0 &&& (2147483647 : Int32)) (17 : Int32)) q2 q3 q4 q5)), (own_i2b (f1_0 (11 : Int32) (p1 &&& (15 : Int32)) (own_rem (p0 &&& (2147483647 : Int32)) (17 : Int32)) q2 q3 q4 q5)), (own_i2b (f1_0 (12 : Int32) (p1 &&& (15 : Int32)) (own_rem (p0 &&& (2147483647 : Int32)) (17 : Int32)) q2 q3 q4 q5)), (own_i2b (f1_0 (13 : Int32) (p1 &&& (15 : Int32)) (own_rem (p0 &&& (2147483647 : Int32)) (17 : Int32)) q2 q3 q4 q5)), (0 : Int32), (0 : Int32), (0 : Int32), (0 : Int32), (0 : Int32), (0 : Int32), (0 : Int32), (0 : Int32), (0 : Int32), (0 : Int32), (0 : Int32), (0 : Int32), (0 : Int32), (0 : Int32), (0 : Int32), (0 : Int32), (0 : Int32), (0 : Int32)]) X59 hx hZ e59 A58 ⟨by decide, Nat.le_of_ble_eq_true rfl⟩ (hb hby at_286) rfl rfl fun T60 h60 X60 e60 W60 A60 => ?_
  have Y60 := own_drop X60 g32
  refine o_dup (pc' := 288) Y60 hx (hb hby at_287) rfl rfl ?_
  refine o_bipush (pc' := 290) (x := (14 : Int32)) Y60 hx (hb hby at_288) (by decide) rfl ?_
  refine o_bipush (pc' := 292) (x := (14 : Int32)) Y60 hx (hb hby at_290) (by decide) rfl ?_
  refine o_iload (pc' := 294) Y60 hx (hb hby at_292) rfl rfl ?_
  refine o_iload (pc' := 296) Y60 hx (hb hby at_294) rfl rfl ?_
  refine o_lloadN (pc' := 297) Y60 hx (hb hby at_296) rfl rfl ?_
  refine o_lload (pc' := 299) Y60 hx (hb hby at_297) rfl rfl ?_
  refine o_lload (pc' := 301) Y60 hx (hb hby at_299) rfl rfl ?_
  refine o_lload (pc' := 303) Y60 hx (hb hby at_301) rfl rfl ?_
  refine o_callP (W := 3) (pc' := 306) (argsL := [(.int (14 : Int32)), (.int (p1 &&& (15 : Int32))), (.int (own_rem (p0 &&& (2147483647 : Int32)) (17 : Int32))), (.long q2), (.long q3), (.long q4), (.long q5)]) (rest := [(.int (14 : Int32)), (.ref b32), (.ref b32)]) (st' := [(.int (f1_0 (14 : Int32) (p1 &&& (15 : Int32)) (own_rem (p0 &&& (2147483647 : Int32)) (17 : Int32)) q2 q3 q4 q5)), (.int (14 : Int32)), (.ref b32), (.ref b32)]) Y60 hx hZ e60 hown (hw _ (List.mem_of_getElem? (i := 2) rfl)) (hw _ (List.mem_of_getElem? (i := 3) rfl)) (hw _ (List.mem_of_getElem? (i := 4) rfl)) (hw _ (List.mem_of_getElem? (i := 5) rfl)) (by decide) (rm1 l Z ag hw [] (14 : Int32) (p1 &&& (15 : Int32)) (own_rem (p0 &&& (2147483647 : Int32)) (17 : Int32)) q2 q3 q4 q5 h60) (by decide) (by decide) (by rw [hml]; rfl) pd_2 rfl rfl rfl rfl (hb hby at_303) rfl rfl rfl (by decide) (by decide) rfl fun T61 X61 e61 => ?_
  refine o_bastore (pc' := 307) (vs' := [(own_i2b (f1_0 (0 : Int32) (p1 &&& (15 : Int32)) (own_rem (p0 &&& (2147483647 : Int32)) (17 : Int32)) q2 q3 q4 q5)), (own_i2b (f1_0 (1 : Int32) (p1 &&& (15 : Int32)) (own_rem (p0 &&& (2147483647 : Int32)) (17 : Int32)) q2 q3 q4 q5)), (own_i2b (f1_0 (2 : Int32) (p1 &&& (15 : Int32)) (own_rem (p0 &&& (2147483647 : Int32)) (17 : Int32)) q2 q3 q4 q5)), (own_i2b (f1_0 (3 : Int32) (p1 &&& (15 : Int32)) (own_rem (p0 &&& (2147483647 : Int32)) (17 : Int32)) q2 q3 q4 q5)), (own_i2b (f1_0 (4 : Int32) (p1 &&& (15 : Int32)) (own_rem (p0 &&& (2147483647 : Int32)) (17 : Int32)) q2 q3 q4 q5)), (own_i2b (f1_0 (5 : Int32) (p1 &&& (15 : Int32)) (own_rem (p0 &&& (2147483647 : Int32)) (17 : Int32)) q2 q3 q4 q5)), (own_i2b (f1_0 (6 : Int32) (p1 &&& (15 : Int32)) (own_rem (p0 &&& (2147483647 : Int32)) (17 : Int32)) q2 q3 q4 q5)), (own_i2b (f1_0 (7 : Int32) (p1 &&& (15 : Int32)) (own_rem (p0 &&& (2147483647 : Int32)) (17 : Int32)) q2 q3 q4 q5)), (own_i2b (f1_0 (8 : Int32) (p1 &&& (15 : Int32)) (own_rem (p0 &&& (2147483647 : Int32)) (17 : Int32)) q2 q3 q4 q5)), (own_i2b (f1_0 (9 : Int32) (p1 &&& (15 : Int32)) (own_rem (p0 &&& (2147483647 : Int32)) (17 : Int32)) q2 q3 q4 q5)), (own_i2b (f1_0 (10 : Int32) (p1 &&& (15 : Int32)) (own_rem (p0 &&& (2147483647 : Int32)) (17 : Int32)) q2 q3 q4 q5)), (own_i2b (f1_0 (11 : Int32) (p1 &&& (15 : Int32)) (own_rem (p0 &&& (2147483647 : Int32)) (17 : Int32)) q2 q3 q4 q5)), (own_i2b (f1_0 (12 : Int32) (p1 &&& (15 : Int32)) (own_rem (p0 &&& (2147483647 : Int32)) (17 : Int32)) q2 q3 q4 q5)), (own_i2b (f1_0 (13 : Int32) (p1 &&& (15 : Int32)) (own_rem (p0 &&& (2147483647 : Int32)) (17 : Int32)) q2 q3 q4 q5)), (own_i2b (f1_0 (14 : Int32) (p1 &&& (15 : Int32)) (own_rem (p0 &&& (2147483647 : Int32)) (17 : Int32)) q2 q3 q4 q5)), (0 : Int32), (0 : Int32), (0 : Int32), (0 : Int32), (0 : Int32), (0 : Int32), (0 : Int32), (0 : Int32), (0 : Int32), (0 : Int32), (0 : Int32), (0 : Int32), (0 : Int32), (0 : Int32), (0 : Int32), (0 : Int32), (0 : Int32)]) X61 hx hZ e61 A60 ⟨by decide, Nat.le_of_ble_eq_true rfl⟩ (hb hby at_306) rfl rfl fun T62 h62 X62 e62 W62 A62 => ?_
  have Y62 := own_drop X62 g32
  refine o_dup (pc' := 308) Y62 hx (hb hby at_307) rfl rfl ?_
  refine o_bipush (pc' := 310) (x := (15 : Int32)) Y62 hx (hb hby at_308) (by decide) rfl ?_
  refine o_bipush (pc' := 312) (x := (15 : Int32)) Y62 hx (hb hby at_310) (by decide) rfl ?_
  refine o_iload (pc' := 314) Y62 hx (hb hby at_312) rfl rfl ?_
  refine o_iload (pc' := 316) Y62 hx (hb hby at_314) rfl rfl ?_
  refine o_lloadN (pc' := 317) Y62 hx (hb hby at_316) rfl rfl ?_
  refine o_lload (pc' := 319) Y62 hx (hb hby at_317) rfl rfl ?_
  refine o_lload (pc' := 321) Y62 hx (hb hby at_319) rfl rfl ?_
  refine o_lload (pc' := 323) Y62 hx (hb hby at_321) rfl rfl ?_
  refine o_callP (W := 3) (pc' := 326) (argsL := [(.int (15 : Int32)), (.int (p1 &&& (15 : Int32))), (.int (own_rem (p0 &&& (2147483647 : Int32)) (17 : Int32))), (.long q2), (.long q3), (.long q4), (.long q5)]) (rest := [(.int (15 : Int32)), (.ref b32), (.ref b32)]) (st' := [(.int (f1_0 (15 : Int32) (p1 &&& (15 : Int32)) (own_rem (p0 &&& (2147483647 : Int32)) (17 : Int32)) q2 q3 q4 q5)), (.int (15 : Int32)), (.ref b32), (.ref b32)]) Y62 hx hZ e62 hown (hw _ (List.mem_of_getElem? (i := 2) rfl)) (hw _ (List.mem_of_getElem? (i := 3) rfl)) (hw _ (List.mem_of_getElem? (i := 4) rfl)) (hw _ (List.mem_of_getElem? (i := 5) rfl)) (by decide) (rm1 l Z ag hw [] (15 : Int32) (p1 &&& (15 : Int32)) (own_rem (p0 &&& (2147483647 : Int32)) (17 : Int32)) q2 q3 q4 q5 h62) (by decide) (by decide) (by rw [hml]; rfl) pd_2 rfl rfl rfl rfl (hb hby at_323) rfl rfl rfl (by decide) (by decide) rfl fun T63 X63 e63 => ?_
  refine o_bastore (pc' := 327) (vs' := [(own_i2b (f1_0 (0 : Int32) (p1 &&& (15 : Int32)) (own_rem (p0 &&& (2147483647 : Int32)) (17 : Int32)) q2 q3 q4 q5)), (own_i2b (f1_0 (1 : Int32) (p1 &&& (15 : Int32)) (own_rem (p0 &&& (2147483647 : Int32)) (17 : Int32)) q2 q3 q4 q5)), (own_i2b (f1_0 (2 : Int32) (p1 &&& (15 : Int32)) (own_rem (p0 &&& (2147483647 : Int32)) (17 : Int32)) q2 q3 q4 q5)), (own_i2b (f1_0 (3 : Int32) (p1 &&& (15 : Int32)) (own_rem (p0 &&& (2147483647 : Int32)) (17 : Int32)) q2 q3 q4 q5)), (own_i2b (f1_0 (4 : Int32) (p1 &&& (15 : Int32)) (own_rem (p0 &&& (2147483647 : Int32)) (17 : Int32)) q2 q3 q4 q5)), (own_i2b (f1_0 (5 : Int32) (p1 &&& (15 : Int32)) (own_rem (p0 &&& (2147483647 : Int32)) (17 : Int32)) q2 q3 q4 q5)), (own_i2b (f1_0 (6 : Int32) (p1 &&& (15 : Int32)) (own_rem (p0 &&& (2147483647 : Int32)) (17 : Int32)) q2 q3 q4 q5)), (own_i2b (f1_0 (7 : Int32) (p1 &&& (15 : Int32)) (own_rem (p0 &&& (2147483647 : Int32)) (17 : Int32)) q2 q3 q4 q5)), (own_i2b (f1_0 (8 : Int32) (p1 &&& (15 : Int32)) (own_rem (p0 &&& (2147483647 : Int32)) (17 : Int32)) q2 q3 q4 q5)), (own_i2b (f1_0 (9 : Int32) (p1 &&& (15 : Int32)) (own_rem (p0 &&& (2147483647 : Int32)) (17 : Int32)) q2 q3 q4 q5)), (own_i2b (f1_0 (10 : Int32) (p1 &&& (15 : Int32)) (own_rem (p0 &&& (2147483647 : Int32)) (17 : Int32)) q2 q3 q4 q5)), (own_i2b (f1_0 (11 : Int32) (p1 &&& (15 : Int32)) (own_rem (p0 &&& (2147483647 : Int32)) (17 : Int32)) q2 q3 q4 q5)), (own_i2b (f1_0 (12 : Int32) (p1 &&& (15 : Int32)) (own_rem (p0 &&& (2147483647 : Int32)) (17 : Int32)) q2 q3 q4 q5)), (own_i2b (f1_0 (13 : Int32) (p1 &&& (15 : Int32)) (own_rem (p0 &&& (2147483647 : Int32)) (17 : Int32)) q2 q3 q4 q5)), (own_i2b (f1_0 (14 : Int32) (p1 &&& (15 : Int32)) (own_rem (p0 &&& (2147483647 : Int32)) (17 : Int32)) q2 q3 q4 q5)), (own_i2b (f1_0 (15 : Int32) (p1 &&& (15 : Int32)) (own_rem (p0 &&& (2147483647 : Int32)) (17 : Int32)) q2 q3 q4 q5)), (0 : Int32), (0 : Int32), (0 : Int32), (0 : Int32), (0 : Int32), (0 : Int32), (0 : Int32), (0 : Int32), (0 : Int32), (0 : Int32), (0 : Int32), (0 : Int32), (0 : Int32), (0 : Int32), (0 : Int32), (0 : Int32)]) X63 hx hZ e63 A62 ⟨by decide, Nat.le_of_ble_eq_true rfl⟩ (hb hby at_326) rfl rfl fun T64 h64 X64 e64 W64 A64 => ?_
  have Y64 := own_drop X64 g32
  refine o_dup (pc' := 328) Y64 hx (hb hby at_327) rfl rfl ?_
  refine o_bipush (pc' := 330) (x := (16 : Int32)) Y64 hx (hb hby at_328) (by decide) rfl ?_
  refine o_bipush (pc' := 332) (x := (16 : Int32)) Y64 hx (hb hby at_330) (by decide) rfl ?_
  refine o_iload (pc' := 334) Y64 hx (hb hby at_332) rfl rfl ?_
  refine o_iload (pc' := 336) Y64 hx (hb hby at_334) rfl rfl ?_
  refine o_lloadN (pc' := 337) Y64 hx (hb hby at_336) rfl rfl ?_
  refine o_lload (pc' := 339) Y64 hx (hb hby at_337) rfl rfl ?_
  refine o_lload (pc' := 341) Y64 hx (hb hby at_339) rfl rfl ?_
  refine o_lload (pc' := 343) Y64 hx (hb hby at_341) rfl rfl ?_
  refine o_callP (W := 3) (pc' := 346) (argsL := [(.int (16 : Int32)), (.int (p1 &&& (15 : Int32))), (.int (own_rem (p0 &&& (2147483647 : Int32)) (17 : Int32))), (.long q2), (.long q3), (.long q4), (.long q5)]) (rest := [(.int (16 : Int32)), (.ref b32), (.ref b32)]) (st' := [(.int (f1_0 (16 : Int32) (p1 &&& (15 : Int32)) (own_rem (p0 &&& (2147483647 : Int32)) (17 : Int32)) q2 q3 q4 q5)), (.int (16 : Int32)), (.ref b32), (.ref b32)]) Y64 hx hZ e64 hown (hw _ (List.mem_of_getElem? (i := 2) rfl)) (hw _ (List.mem_of_getElem? (i := 3) rfl)) (hw _ (List.mem_of_getElem? (i := 4) rfl)) (hw _ (List.mem_of_getElem? (i := 5) rfl)) (by decide) (rm1 l Z ag hw [] (16 : Int32) (p1 &&& (15 : Int32)) (own_rem (p0 &&& (2147483647 : Int32)) (17 : Int32)) q2 q3 q4 q5 h64) (by decide) (by decide) (by rw [hml]; rfl) pd_2 rfl rfl rfl rfl (hb hby at_343) rfl rfl rfl (by decide) (by decide) rfl fun T65 X65 e65 => ?_
  refine o_bastore (pc' := 347) (vs' := [(own_i2b (f1_0 (0 : Int32) (p1 &&& (15 : Int32)) (own_rem (p0 &&& (2147483647 : Int32)) (17 : Int32)) q2 q3 q4 q5)), (own_i2b (f1_0 (1 : Int32) (p1 &&& (15 : Int32)) (own_rem (p0 &&& (2147483647 : Int32)) (17 : Int32)) q2 q3 q4 q5)), (own_i2b (f1_0 (2 : Int32) (p1 &&& (15 : Int32)) (own_rem (p0 &&& (2147483647 : Int32)) (17 : Int32)) q2 q3 q4 q5)), (own_i2b (f1_0 (3 : Int32) (p1 &&& (15 : Int32)) (own_rem (p0 &&& (2147483647 : Int32)) (17 : Int32)) q2 q3 q4 q5)), (own_i2b (f1_0 (4 : Int32) (p1 &&& (15 : Int32)) (own_rem (p0 &&& (2147483647 : Int32)) (17 : Int32)) q2 q3 q4 q5)), (own_i2b (f1_0 (5 : Int32) (p1 &&& (15 : Int32)) (own_rem (p0 &&& (2147483647 : Int32)) (17 : Int32)) q2 q3 q4 q5)), (own_i2b (f1_0 (6 : Int32) (p1 &&& (15 : Int32)) (own_rem (p0 &&& (2147483647 : Int32)) (17 : Int32)) q2 q3 q4 q5)), (own_i2b (f1_0 (7 : Int32) (p1 &&& (15 : Int32)) (own_rem (p0 &&& (2147483647 : Int32)) (17 : Int32)) q2 q3 q4 q5)), (own_i2b (f1_0 (8 : Int32) (p1 &&& (15 : Int32)) (own_rem (p0 &&& (2147483647 : Int32)) (17 : Int32)) q2 q3 q4 q5)), (own_i2b (f1_0 (9 : Int32) (p1 &&& (15 : Int32)) (own_rem (p0 &&& (2147483647 : Int32)) (17 : Int32)) q2 q3 q4 q5)), (own_i2b (f1_0 (10 : Int32) (p1 &&& (15 : Int32)) (own_rem (p0 &&& (2147483647 : Int32)) (17 : Int32)) q2 q3 q4 q5)), (own_i2b (f1_0 (11 : Int32) (p1 &&& (15 : Int32)) (own_rem (p0 &&& (2147483647 : Int32)) (17 : Int32)) q2 q3 q4 q5)), (own_i2b (f1_0 (12 : Int32) (p1 &&& (15 : Int32)) (own_rem (p0 &&& (2147483647 : Int32)) (17 : Int32)) q2 q3 q4 q5)), (own_i2b (f1_0 (13 : Int32) (p1 &&& (15 : Int32)) (own_rem (p0 &&& (2147483647 : Int32)) (17 : Int32)) q2 q3 q4 q5)), (own_i2b (f1_0 (14 : Int32) (p1 &&& (15 : Int32)) (own_rem (p0 &&& (2147483647 : Int32)) (17 : Int32)) q2 q3 q4 q5)), (own_i2b (f1_0 (15 : Int32) (p1 &&& (15 : Int32)) (own_rem (p0 &&& (2147483647 : Int32)) (17 : Int32)) q2 q3 q4 q5)), (own_i2b (f1_0 (16 : Int32) (p1 &&& (15 : Int32)) (own_rem (p0 &&& (2147483647 : Int32)) (17 : Int32)) q2 q3 q4 q5)), (0 : Int32), (0 : Int32), (0 : Int32), (0 : Int32), (0 : Int32), (0 : Int32), (0 : Int32), (0 : Int32), (0 : Int32), (0 : Int32), (0 : Int32), (0 : Int32), (0 : Int32), (0 : Int32), (0 : Int32)]) X65 hx hZ e65 A64 ⟨by decide, Nat.le_of_ble_eq_true rfl⟩ (hb hby at_346) rfl rfl fun T66 h66 X66 e66 W66 A66 => ?_
  have Y66 := own_drop X66 g32
  refine o_dup (pc' := 348) Y66 hx (hb hby at_347) rfl rfl ?_
  refine o_bipush (pc' := 350) (x := (17 : Int32)) Y66 hx (hb hby at_348) (by decide) rfl ?_
  refine o_bipush (pc' := 352) (x := (17 : Int32)) Y66 hx (hb hby at_350) (by decide) rfl ?_
  refine o_iload (pc' := 354) Y66 hx (hb hby at_352) rfl rfl ?_
  refine o_iload (pc' := 356) Y66 hx (hb hby at_354) rfl rfl ?_
  refine o_lloadN (pc' := 357) Y66 hx (hb hby at_356) rfl rfl ?_
  refine o_lload (pc' := 359) Y66 hx (hb hby at_357) rfl rfl ?_
  refine o_lload (pc' := 361) Y66 hx (hb hby at_359) rfl rfl ?_
  refine o_lload (pc' := 363) Y66 hx (hb hby at_361) rfl rfl ?_
  refine o_callP (W := 3) (pc' := 366) (argsL := [(.int (17 : Int32)), (.int (p1 &&& (15 : Int32))), (.int (own_rem (p0 &&& (2147483647 : Int32)) (17 : Int32))), (.long q2), (.long q3), (.long q4), (.long q5)]) (rest := [(.int (17 : Int32)), (.ref b32), (.ref b32)]) (st' := [(.int (f1_0 (17 : Int32) (p1 &&& (15 : Int32)) (own_rem (p0 &&& (2147483647 : Int32)) (17 : Int32)) q2 q3 q4 q5)), (.int (17 : Int32)), (.ref b32), (.ref b32)]) Y66 hx hZ e66 hown (hw _ (List.mem_of_getElem? (i := 2) rfl)) (hw _ (List.mem_of_getElem? (i := 3) rfl)) (hw _ (List.mem_of_getElem? (i := 4) rfl)) (hw _ (List.mem_of_getElem? (i := 5) rfl)) (by decide) (rm1 l Z ag hw [] (17 : Int32) (p1 &&& (15 : Int32)) (own_rem (p0 &&& (2147483647 : Int32)) (17 : Int32)) q2 q3 q4 q5 h66) (by decide) (by decide) (by rw [hml]; rfl) pd_2 rfl rfl rfl rfl (hb hby at_363) rfl rfl rfl (by decide) (by decide) rfl fun T67 X67 e67 => ?_
  refine o_bastore (pc' := 367) (vs' := [(own_i2b (f1_0 (0 : Int32) (p1 &&& (15 : Int32)) (own_rem (p0 &&& (2147483647 : Int32)) (17 : Int32)) q2 q3 q4 q5)), (own_i2b (f1_0 (1 : Int32) (p1 &&& (15 : Int32)) (own_rem (p0 &&& (2147483647 : Int32)) (17 : Int32)) q2 q3 q4 q5)), (own_i2b (f1_0 (2 : Int32) (p1 &&& (15 : Int32)) (own_rem (p0 &&& (2147483647 : Int32)) (17 : Int32)) q2 q3 q4 q5)), (own_i2b (f1_0 (3 : Int32) (p1 &&& (15 : Int32)) (own_rem (p0 &&& (2147483647 : Int32)) (17 : Int32)) q2 q3 q4 q5)), (own_i2b (f1_0 (4 : Int32) (p1 &&& (15 : Int32)) (own_rem (p0 &&& (2147483647 : Int32)) (17 : Int32)) q2 q3 q4 q5)), (own_i2b (f1_0 (5 : Int32) (p1 &&& (15 : Int32)) (own_rem (p0 &&& (2147483647 : Int32)) (17 : Int32)) q2 q3 q4 q5)), (own_i2b (f1_0 (6 : Int32) (p1 &&& (15 : Int32)) (own_rem (p0 &&& (2147483647 : Int32)) (17 : Int32)) q2 q3 q4 q5)), (own_i2b (f1_0 (7 : Int32) (p1 &&& (15 : Int32)) (own_rem (p0 &&& (2147483647 : Int32)) (17 : Int32)) q2 q3 q4 q5)), (own_i2b (f1_0 (8 : Int32) (p1 &&& (15 : Int32)) (own_rem (p0 &&& (2147483647 : Int32)) (17 : Int32)) q2 q3 q4 q5)), (own_i2b (f1_0 (9 : Int32) (p1 &&& (15 : Int32)) (own_rem (p0 &&& (2147483647 : Int32)) (17 : Int32)) q2 q3 q4 q5)), (own_i2b (f1_0 (10 : Int32) (p1 &&& (15 : Int32)) (own_rem (p0 &&& (2147483647 : Int32)) (17 : Int32)) q2 q3 q4 q5)), (own_i2b (f1_0 (11 : Int32) (p1 &&& (15 : Int32)) (own_rem (p0 &&& (2147483647 : Int32)) (17 : Int32)) q2 q3 q4 q5)), (own_i2b (f1_0 (12 : Int32) (p1 &&& (15 : Int32)) (own_rem (p0 &&& (2147483647 : Int32)) (17 : Int32)) q2 q3 q4 q5)), (own_i2b (f1_0 (13 : Int32) (p1 &&& (15 : Int32)) (own_rem (p0 &&& (2147483647 : Int32)) (17 : Int32)) q2 q3 q4 q5)), (own_i2b (f1_0 (14 : Int32) (p1 &&& (15 : Int32)) (own_rem (p0 &&& (2147483647 : Int32)) (17 : Int32)) q2 q3 q4 q5)), (own_i2b (f1_0 (15 : Int32) (p1 &&& (15 : Int32)) (own_rem (p0 &&& (2147483647 : Int32)) (17 : Int32)) q2 q3 q4 q5)), (own_i2b (f1_0 (16 : Int32) (p1 &&& (15 : Int32)) (own_rem (p0 &&& (2147483647 : Int32)) (17 : Int32)) q2 q3 q4 q5)), (own_i2b (f1_0 (17 : Int32) (p1 &&& (15 : Int32)) (own_rem (p0 &&& (2147483647 : Int32)) (17 : Int32)) q2 q3 q4 q5)), (0 : Int32), (0 : Int32), (0 : Int32), (0 : Int32), (0 : Int32), (0 : Int32), (0 : Int32), (0 : Int32), (0 : Int32), (0 : Int32), (0 : Int32), (0 : Int32), (0 : Int32), (0 : Int32)]) X67 hx hZ e67 A66 ⟨by decide, Nat.le_of_ble_eq_true rfl⟩ (hb hby at_366) rfl rfl fun T68 h68 X68 e68 W68 A68 => ?_
  have Y68 := own_drop X68 g32
  refine o_dup (pc' := 368) Y68 hx (hb hby at_367) rfl rfl ?_
  refine o_bipush (pc' := 370) (x := (18 : Int32)) Y68 hx (hb hby at_368) (by decide) rfl ?_
  refine o_bipush (pc' := 372) (x := (18 : Int32)) Y68 hx (hb hby at_370) (by decide) rfl ?_
  refine o_iload (pc' := 374) Y68 hx (hb hby at_372) rfl rfl ?_
  refine o_iload (pc' := 376) Y68 hx (hb hby at_374) rfl rfl ?_
  refine o_lloadN (pc' := 377) Y68 hx (hb hby at_376) rfl rfl ?_
  refine o_lload (pc' := 379) Y68 hx (hb hby at_377) rfl rfl ?_
  refine o_lload (pc' := 381) Y68 hx (hb hby at_379) rfl rfl ?_
  refine o_lload (pc' := 383) Y68 hx (hb hby at_381) rfl rfl ?_
  refine o_callP (W := 3) (pc' := 386) (argsL := [(.int (18 : Int32)), (.int (p1 &&& (15 : Int32))), (.int (own_rem (p0 &&& (2147483647 : Int32)) (17 : Int32))), (.long q2), (.long q3), (.long q4), (.long q5)]) (rest := [(.int (18 : Int32)), (.ref b32), (.ref b32)]) (st' := [(.int (f1_0 (18 : Int32) (p1 &&& (15 : Int32)) (own_rem (p0 &&& (2147483647 : Int32)) (17 : Int32)) q2 q3 q4 q5)), (.int (18 : Int32)), (.ref b32), (.ref b32)]) Y68 hx hZ e68 hown (hw _ (List.mem_of_getElem? (i := 2) rfl)) (hw _ (List.mem_of_getElem? (i := 3) rfl)) (hw _ (List.mem_of_getElem? (i := 4) rfl)) (hw _ (List.mem_of_getElem? (i := 5) rfl)) (by decide) (rm1 l Z ag hw [] (18 : Int32) (p1 &&& (15 : Int32)) (own_rem (p0 &&& (2147483647 : Int32)) (17 : Int32)) q2 q3 q4 q5 h68) (by decide) (by decide) (by rw [hml]; rfl) pd_2 rfl rfl rfl rfl (hb hby at_383) rfl rfl rfl (by decide) (by decide) rfl fun T69 X69 e69 => ?_
  refine o_bastore (pc' := 387) (vs' := [(own_i2b (f1_0 (0 : Int32) (p1 &&& (15 : Int32)) (own_rem (p0 &&& (2147483647 : Int32)) (17 : Int32)) q2 q3 q4 q5)), (own_i2b (f1_0 (1 : Int32) (p1 &&& (15 : Int32)) (own_rem (p0 &&& (2147483647 : Int32)) (17 : Int32)) q2 q3 q4 q5)), (own_i2b (f1_0 (2 : Int32) (p1 &&& (15 : Int32)) (own_rem (p0 &&& (2147483647 : Int32)) (17 : Int32)) q2 q3 q4 q5)), (own_i2b (f1_0 (3 : Int32) (p1 &&& (15 : Int32)) (own_rem (p0 &&& (2147483647 : Int32)) (17 : Int32)) q2 q3 q4 q5)), (own_i2b (f1_0 (4 : Int32) (p1 &&& (15 : Int32)) (own_rem (p0 &&& (2147483647 : Int32)) (17 : Int32)) q2 q3 q4 q5)), (own_i2b (f1_0 (5 : Int32) (p1 &&& (15 : Int32)) (own_rem (p0 &&& (2147483647 : Int32)) (17 : Int32)) q2 q3 q4 q5)), (own_i2b (f1_0 (6 : Int32) (p1 &&& (15 : Int32)) (own_rem (p0 &&& (2147483647 : Int32)) (17 : Int32)) q2 q3 q4 q5)), (own_i2b (f1_0 (7 : Int32) (p1 &&& (15 : Int32)) (own_rem (p0 &&& (2147483647 : Int32)) (17 : Int32)) q2 q3 q4 q5)), (own_i2b (f1_0 (8 : Int32) (p1 &&& (15 : Int32)) (own_rem (p0 &&& (2147483647 : Int32)) (17 : Int32)) q2 q3 q4 q5)), (own_i2b (f1_0 (9 : Int32) (p1 &&& (15 : Int32)) (own_rem (p0 &&& (2147483647 : Int32)) (17 : Int32)) q2 q3 q4 q5)), (own_i2b (f1_0 (10 : Int32) (p1 &&& (15 : Int32)) (own_rem (p0 &&& (2147483647 : Int32)) (17 : Int32)) q2 q3 q4 q5)), (own_i2b (f1_0 (11 : Int32) (p1 &&& (15 : Int32)) (own_rem (p0 &&& (2147483647 : Int32)) (17 : Int32)) q2 q3 q4 q5)), (own_i2b (f1_0 (12 : Int32) (p1 &&& (15 : Int32)) (own_rem (p0 &&& (2147483647 : Int32)) (17 : Int32)) q2 q3 q4 q5)), (own_i2b (f1_0 (13 : Int32) (p1 &&& (15 : Int32)) (own_rem (p0 &&& (2147483647 : Int32)) (17 : Int32)) q2 q3 q4 q5)), (own_i2b (f1_0 (14 : Int32) (p1 &&& (15 : Int32)) (own_rem (p0 &&& (2147483647 : Int32)) (17 : Int32)) q2 q3 q4 q5)), (own_i2b (f1_0 (15 : Int32) (p1 &&& (15 : Int32)) (own_rem (p0 &&& (2147483647 : Int32)) (17 : Int32)) q2 q3 q4 q5)), (own_i2b (f1_0 (16 : Int32) (p1 &&& (15 : Int32)) (own_rem (p0 &&& (2147483647 : Int32)) (17 : Int32)) q2 q3 q4 q5)), (own_i2b (f1_0 (17 : Int32) (p1 &&& (15 : Int32)) (own_rem (p0 &&& (2147483647 : Int32)) (17 : Int32)) q2 q3 q4 q5)), (own_i2b (f1_0 (18 : Int32) (p1 &&& (15 : Int32)) (own_rem (p0 &&& (2147483647 : Int32)) (17 : Int32)) q2 q3 q4 q5)), (0 : Int32), (0 : Int32), (0 : Int32), (0 : Int32), (0 : Int32), (0 : Int32), (0 : Int32), (0 : Int32), (0 : Int32), (0 : Int32), (0 : Int32), (0 : Int32), (0 : Int32)]) X69 hx hZ e69 A68 ⟨by decide, Nat.le_of_ble_eq_true rfl⟩ (hb hby at_386) rfl rfl fun T70 h70 X70 e70 W70 A70 => ?_
  have Y70 := own_drop X70 g32
  refine o_dup (pc' := 388) Y70 hx (hb hby at_387) rfl rfl ?_
  refine o_bipush (pc' := 390) (x := (19 : Int32)) Y70 hx (hb hby at_388) (by decide) rfl ?_
  refine o_bipush (pc' := 392) (x := (19 : Int32)) Y70 hx (hb hby at_390) (by decide) rfl ?_
  refine o_iload (pc' := 394) Y70 hx (hb hby at_392) rfl rfl ?_
  refine o_iload (pc' := 396) Y70 hx (hb hby at_394) rfl rfl ?_
  refine o_lloadN (pc' := 397) Y70 hx (hb hby at_396) rfl rfl ?_
  refine o_lload (pc' := 399) Y70 hx (hb hby at_397) rfl rfl ?_
  refine o_lload (pc' := 401) Y70 hx (hb hby at_399) rfl rfl ?_
  refine o_lload (pc' := 403) Y70 hx (hb hby at_401) rfl rfl ?_
  refine o_callP (W := 3) (pc' := 406) (argsL := [(.int (19 : Int32)), (.int (p1 &&& (15 : Int32))), (.int (own_rem (p0 &&& (2147483647 : Int32)) (17 : Int32))), (.long q2), (.long q3), (.long q4), (.long q5)]) (rest := [(.int (19 : Int32)), (.ref b32), (.ref b32)]) (st' := [(.int (f1_0 (19 : Int32) (p1 &&& (15 : Int32)) (own_rem (p0 &&& (2147483647 : Int32)) (17 : Int32)) q2 q3 q4 q5)), (.int (19 : Int32)), (.ref b32), (.ref b32)]) Y70 hx hZ e70 hown (hw _ (List.mem_of_getElem? (i := 2) rfl)) (hw _ (List.mem_of_getElem? (i := 3) rfl)) (hw _ (List.mem_of_getElem? (i := 4) rfl)) (hw _ (List.mem_of_getElem? (i := 5) rfl)) (by decide) (rm1 l Z ag hw [] (19 : Int32) (p1 &&& (15 : Int32)) (own_rem (p0 &&& (2147483647 : Int32)) (17 : Int32)) q2 q3 q4 q5 h70) (by decide) (by decide) (by rw [hml]; rfl) pd_2 rfl rfl rfl rfl (hb hby at_403) rfl rfl rfl (by decide) (by decide) rfl fun T71 X71 e71 => ?_
  refine o_bastore (pc' := 407) (vs' := [(own_i2b (f1_0 (0 : Int32) (p1 &&& (15 : Int32)) (own_rem (p0 &&& (2147483647 : Int32)) (17 : Int32)) q2 q3 q4 q5)), (own_i2b (f1_0 (1 : Int32) (p1 &&& (15 : Int32)) (own_rem (p0 &&& (2147483647 : Int32)) (17 : Int32)) q2 q3 q4 q5)), (own_i2b (f1_0 (2 : Int32) (p1 &&& (15 : Int32)) (own_rem (p0 &&& (2147483647 : Int32)) (17 : Int32)) q2 q3 q4 q5)), (own_i2b (f1_0 (3 : Int32) (p1 &&& (15 : Int32)) (own_rem (p0 &&& (2147483647 : Int32)) (17 : Int32)) q2 q3 q4 q5)), (own_i2b (f1_0 (4 : Int32) (p1 &&& (15 : Int32)) (own_rem (p0 &&& (2147483647 : Int32)) (17 : Int32)) q2 q3 q4 q5)), (own_i2b (f1_0 (5 : Int32) (p1 &&& (15 : Int32)) (own_rem (p0 &&& (2147483647 : Int32)) (17 : Int32)) q2 q3 q4 q5)), (own_i2b (f1_0 (6 : Int32) (p1 &&& (15 : Int32)) (own_rem (p0 &&& (2147483647 : Int32)) (17 : Int32)) q2 q3 q4 q5)), (own_i2b (f1_0 (7 : Int32) (p1 &&& (15 : Int32)) (own_rem (p0 &&& (2147483647 : Int32)) (17 : Int32)) q2 q3 q4 q5)), (own_i2b (f1_0 (8 : Int32) (p1 &&& (15 : Int32)) (own_rem (p0 &&& (2147483647 : Int32)) (17 : Int32)) q2 q3 q4 q5)), (own_i2b (f1_0 (9 : Int32) (p1 &&& (15 : Int32)) (own_rem (p0 &&& (2147483647 : Int32)) (17 : Int32)) q2 q3 q4 q5)), (own_i2b (f1_0 (10 : Int32) (p1 &&& (15 : Int32)) (own_rem (p0 &&& (2147483647 : Int32)) (17 : Int32)) q2 q3 q4 q5)), (own_i2b (f1_0 (11 : Int32) (p1 &&& (15 : Int32)) (own_rem (p0 &&& (2147483647 : Int32)) (17 : Int32)) q2 q3 q4 q5)), (own_i2b (f1_0 (12 : Int32) (p1 &&& (15 : Int32)) (own_rem (p0 &&& (2147483647 : Int32)) (17 : Int32)) q2 q3 q4 q5)), (own_i2b (f1_0 (13 : Int32) (p1 &&& (15 : Int32)) (own_rem (p0 &&& (2147483647 : Int32)) (17 : Int32)) q2 q3 q4 q5)), (own_i2b (f1_0 (14 : Int32) (p1 &&& (15 : Int32)) (own_rem (p0 &&& (2147483647 : Int32)) (17 : Int32)) q2 q3 q4 q5)), (own_i2b (f1_0 (15 : Int32) (p1 &&& (15 : Int32)) (own_rem (p0 &&& (2147483647 : Int32)) (17 : Int32)) q2 q3 q4 q5)), (own_i2b (f1_0 (16 : Int32) (p1 &&& (15 : Int32)) (own_rem (p0 &&& (2147483647 : Int32)) (17 : Int32)) q2 q3 q4 q5)), (own_i2b (f1_0 (17 : Int32) (p1 &&& (15 : Int32)) (own_rem (p0 &&& (2147483647 : Int32)) (17 : Int32)) q2 q3 q4 q5)), (own_i2b (f1_0 (18 : Int32) (p1 &&& (15 : Int32)) (own_rem (p0 &&& (2147483647 : Int32)) (17 : Int32)) q2 q3 q4 q5)), (own_i2b (f1_0 (19 : Int32) (p1 &&& (15 : Int32)) (own_rem (p0 &&& (2147483647 : Int32)) (17 : Int32)) q2 q3 q4 q5)), (0 : Int32), (0 : Int32), (0 : Int32), (0 : Int32), (0 : Int32), (0 : Int32), (0 : Int32), (0 : Int32), (0 : Int32), (0 : Int32), (0 : Int32), (0 : Int32)]) X71 hx hZ e71 A70 ⟨by decide, Nat.le_of_ble_eq_true rfl⟩ (hb hby at_406) rfl rfl fun T72 h72 X72 e72 W72 A72 => ?_
  have Y72 := own_drop X72 g32
  refine o_dup (pc' := 408) Y72 hx (hb hby at_407) rfl rfl ?_
  refine o_bipush (pc' := 410) (x := (20 : Int32)) Y72 hx (hb hby at_408) (by decide) rfl ?_
  refine o_bipush (pc' := 412) (x := (20 : Int32)) Y72 hx (hb hby at_410) (by decide) rfl ?_
  refine o_iload (pc' := 414) Y72 hx (hb hby at_412) rfl rfl ?_
  refine o_iload (pc' := 416) Y72 hx (hb hby at_414) rfl rfl ?_
  refine o_lloadN (pc' := 417) Y72 hx (hb hby at_416) rfl rfl ?_
  refine o_lload (pc' := 419) Y72 hx (hb hby at_417) rfl rfl ?_
  refine o_lload (pc' := 421) Y72 hx (hb hby at_419) rfl rfl ?_
  refine o_lload (pc' := 423) Y72 hx (hb hby at_421) rfl rfl ?_
  refine o_callP (W := 3) (pc' := 426) (argsL := [(.int (20 : Int32)), (.int (p1 &&& (15 : Int32))), (.int (own_rem (p0 &&& (2147483647 : Int32)) (17 : Int32))), (.long q2), (.long q3), (.long q4), (.long q5)]) (rest := [(.int (20 : Int32)), (.ref b32), (.ref b32)]) (st' := [(.int (f1_0 (20 : Int32) (p1 &&& (15 : Int32)) (own_rem (p0 &&& (2147483647 : Int32)) (17 : Int32)) q2 q3 q4 q5)), (.int (20 : Int32)), (.ref b32), (.ref b32)]) Y72 hx hZ e72 hown (hw _ (List.mem_of_getElem? (i := 2) rfl)) (hw _ (List.mem_of_getElem? (i := 3) rfl)) (hw _ (List.mem_of_getElem? (i := 4) rfl)) (hw _ (List.mem_of_getElem? (i := 5) rfl)) (by decide) (rm1 l Z ag hw [] (20 : Int32) (p1 &&& (15 : Int32)) (own_rem (p0 &&& (2147483647 : Int32)) (17 : Int32)) q2 q3 q4 q5 h72) (by decide) (by decide) (by rw [hml]; rfl) pd_2 rfl rfl rfl rfl (hb hby at_423) rfl rfl rfl (by decide) (by decide) rfl fun T73 X73 e73 => ?_
  refine o_bastore (pc' := 427) (vs' := [(own_i2b (f1_0 (0 : Int32) (p1 &&& (15 : Int32)) (own_rem (p0 &&& (2147483647 : Int32)) (17 : Int32)) q2 q3 q4 q5)), (own_i2b (f1_0 (1 : Int32) (p1 &&& (15 : Int32)) (own_rem (p0 &&& (2147483647 : Int32)) (17 : Int32)) q2 q3 q4 q5)), (own_i2b (f1_0 (2 : Int32) (p1 &&& (15 : Int32)) (own_rem (p0 &&& (2147483647 : Int32)) (17 : Int32)) q2 q3 q4 q5)), (own_i2b (f1_0 (3 : Int32) (p1 &&& (15 : Int32)) (own_rem (p0 &&& (2147483647 : Int32)) (17 : Int32)) q2 q3 q4 q5)), (own_i2b (f1_0 (4 : Int32) (p1 &&& (15 : Int32)) (own_rem (p0 &&& (2147483647 : Int32)) (17 : Int32)) q2 q3 q4 q5)), (own_i2b (f1_0 (5 : Int32) (p1 &&& (15 : Int32)) (own_rem (p0 &&& (2147483647 : Int32)) (17 : Int32)) q2 q3 q4 q5)), (own_i2b (f1_0 (6 : Int32) (p1 &&& (15 : Int32)) (own_rem (p0 &&& (2147483647 : Int32)) (17 : Int32)) q2 q3 q4 q5)), (own_i2b (f1_0 (7 : Int32) (p1 &&& (15 : Int32)) (own_rem (p0 &&& (2147483647 : Int32)) (17 : Int32)) q2 q3 q4 q5)), (own_i2b (f1_0 (8 : Int32) (p1 &&& (15 : Int32)) (own_rem (p0 &&& (2147483647 : Int32)) (17 : Int32)) q2 q3 q4 q5)), (own_i2b (f1_0 (9 : Int32) (p1 &&& (15 : Int32)) (own_rem (p0 &&& (2147483647 : Int32)) (17 : Int32)) q2 q3 q4 q5)), (own_i2b (f1_0 (10 : Int32) (p1 &&& (15 : Int32)) (own_rem (p0 &&& (2147483647 : Int32)) (17 : Int32)) q2 q3 q4 q5)), (own_i2b (f1_0 (11 : Int32) (p1 &&& (15 : Int32)) (own_rem (p0 &&& (2147483647 : Int32)) (17 : Int32)) q2 q3 q4 q5)), (own_i2b (f1_0 (12 : Int32) (p1 &&& (15 : Int32)) (own_rem (p0 &&& (2147483647 : Int32)) (17 : Int32)) q2 q3 q4 q5)), (own_i2b (f1_0 (13 : Int32) (p1 &&& (15 : Int32)) (own_rem (p0 &&& (2147483647 : Int32)) (17 : Int32)) q2 q3 q4 q5)), (own_i2b (f1_0 (14 : Int32) (p1 &&& (15 : Int32)) (own_rem (p0 &&& (2147483647 : Int32)) (17 : Int32)) q2 q3 q4 q5)), (own_i2b (f1_0 (15 : Int32) (p1 &&& (15 : Int32)) (own_rem (p0 &&& (2147483647 : Int32)) (17 : Int32)) q2 q3 q4 q5)), (own_i2b (f1_0 (16 : Int32) (p1 &&& (15 : Int32)) (own_rem (p0 &&& (2147483647 : Int32)) (17 : Int32)) q2 q3 q4 q5)), (own_i2b (f1_0 (17 : Int32) (p1 &&& (15 : Int32)) (own_rem (p0 &&& (2147483647 : Int32)) (17 : Int32)) q2 q3 q4 q5)), (own_i2b (f1_0 (18 : Int32) (p1 &&& (15 : Int32)) (own_rem (p0 &&& (2147483647 : Int32)) (17 : Int32)) q2 q3 q4 q5)), (own_i2b (f1_0 (19 : Int32) (p1 &&& (15 : Int32)) (own_rem (p0 &&& (2147483647 : Int32)) (17 : Int32)) q2 q3 q4 q5)), (own_i2b (f1_0 (20 : Int32) (p1 &&& (15 : Int32)) (own_rem (p0 &&& (2147483647 : Int32)) (17 : Int32)) q2 q3 q4 q5)), (0 : Int32), (0 : Int32), (0 : Int32), (0 : Int32), (0 : Int32), (0 : Int32), (0 : Int32), (0 : Int32), (0 : Int32), (0 : Int32), (0 : Int32)]) X73 hx hZ e73 A72 ⟨by decide, Nat.le_of_ble_eq_true rfl⟩ (hb hby at_426) rfl rfl fun T74 h74 X74 e74 W74 A74 => ?_
  have Y74 := own_drop X74 g32
  refine o_dup (pc' := 428) Y74 hx (hb hby at_427) rfl rfl ?_
  refine o_bipush (pc' := 430) (x := (21 : Int32)) Y74 hx (hb hby at_428) (by decide) rfl ?_
  refine o_bipush (pc' := 432) (x := (21 : Int32)) Y74 hx (hb hby at_430) (by decide) rfl ?_
  refine o_iload (pc' := 434) Y74 hx (hb hby at_432) rfl rfl ?_
  refine o_iload (pc' := 436) Y74 hx (hb hby at_434) rfl rfl ?_
  refine o_lloadN (pc' := 437) Y74 hx (hb hby at_436) rfl rfl ?_
  refine o_lload (pc' := 439) Y74 hx (hb hby at_437) rfl rfl ?_
  refine o_lload (pc' := 441) Y74 hx (hb hby at_439) rfl rfl ?_
  refine o_lload (pc' := 443) Y74 hx (hb hby at_441) rfl rfl ?_
  refine o_callP (W := 3) (pc' := 446) (argsL := [(.int (21 : Int32)), (.int (p1 &&& (15 : Int32))), (.int (own_rem (p0 &&& (2147483647 : Int32)) (17 : Int32))), (.long q2), (.long q3), (.long q4), (.long q5)]) (rest := [(.int (21 : Int32)), (.ref b32), (.ref b32)]) (st' := [(.int (f1_0 (21 : Int32) (p1 &&& (15 : Int32)) (own_rem (p0 &&& (2147483647 : Int32)) (17 : Int32)) q2 q3 q4 q5)), (.int (21 : Int32)), (.ref b32), (.ref b32)]) Y74 hx hZ e74 hown (hw _ (List.mem_of_getElem? (i := 2) rfl)) (hw _ (List.mem_of_getElem? (i := 3) rfl)) (hw _ (List.mem_of_getElem? (i := 4) rfl)) (hw _ (List.mem_of_getElem? (i := 5) rfl)) (by decide) (rm1 l Z ag hw [] (21 : Int32) (p1 &&& (15 : Int32)) (own_rem (p0 &&& (2147483647 : Int32)) (17 : Int32)) q2 q3 q4 q5 h74) (by decide) (by decide) (by rw [hml]; rfl) pd_2 rfl rfl rfl rfl (hb hby at_443) rfl rfl rfl (by decide) (by decide) rfl fun T75 X75 e75 => ?_
  refine o_bastore (pc' := 447) (vs' := [(own_i2b (f1_0 (0 : Int32) (p1 &&& (15 : Int32)) (own_rem (p0 &&& (2147483647 : Int32)) (17 : Int32)) q2 q3 q4 q5)), (own_i2b (f1_0 (1 : Int32) (p1 &&& (15 : Int32)) (own_rem (p0 &&& (2147483647 : Int32)) (17 : Int32)) q2 q3 q4 q5)), (own_i2b (f1_0 (2 : Int32) (p1 &&& (15 : Int32)) (own_rem (p0 &&& (2147483647 : Int32)) (17 : Int32)) q2 q3 q4 q5)), (own_i2b (f1_0 (3 : Int32) (p1 &&& (15 : Int32)) (own_rem (p0 &&& (2147483647 : Int32)) (17 : Int32)) q2 q3 q4 q5)), (own_i2b (f1_0 (4 : Int32) (p1 &&& (15 : Int32)) (own_rem (p0 &&& (2147483647 : Int32)) (17 : Int32)) q2 q3 q4 q5)), (own_i2b (f1_0 (5 : Int32) (p1 &&& (15 : Int32)) (own_rem (p0 &&& (2147483647 : Int32)) (17 : Int32)) q2 q3 q4 q5)), (own_i2b (f1_0 (6 : Int32) (p1 &&& (15 : Int32)) (own_rem (p0 &&& (2147483647 : Int32)) (17 : Int32)) q2 q3 q4 q5)), (own_i2b (f1_0 (7 : Int32) (p1 &&& (15 : Int32)) (own_rem (p0 &&& (2147483647 : Int32)) (17 : Int32)) q2 q3 q4 q5)), (own_i2b (f1_0 (8 : Int32) (p1 &&& (15 : Int32)) (own_rem (p0 &&& (2147483647 : Int32)) (17 : Int32)) q2 q3 q4 q5)), (own_i2b (f1_0 (9 : Int32) (p1 &&& (15 : Int32)) (own_rem (p0 &&& (2147483647 : Int32)) (17 : Int32)) q2 q3 q4 q5)), (own_i2b (f1_0 (10 : Int32) (p1 &&& (15 : Int32)) (own_rem (p0 &&& (2147483647 : Int32)) (17 : Int32)) q2 q3 q4 q5)), (own_i2b (f1_0 (11 : Int32) (p1 &&& (15 : Int32)) (own_rem (p0 &&& (2147483647 : Int32)) (17 : Int32)) q2 q3 q4 q5)), (own_i2b (f1_0 (12 : Int32) (p1 &&& (15 : Int32)) (own_rem (p0 &&& (2147483647 : Int32)) (17 : Int32)) q2 q3 q4 q5)), (own_i2b (f1_0 (13 : Int32) (p1 &&& (15 : Int32)) (own_rem (p0 &&& (2147483647 : Int32)) (17 : Int32)) q2 q3 q4 q5)), (own_i2b (f1_0 (14 : Int32) (p1 &&& (15 : Int32)) (own_rem (p0 &&& (2147483647 : Int32)) (17 : Int32)) q2 q3 q4 q5)), (own_i2b (f1_0 (15 : Int32) (p1 &&& (15 : Int32)) (own_rem (p0 &&& (2147483647 : Int32)) (17 : Int32)) q2 q3 q4 q5)), (own_i2b (f1_0 (16 : Int32) (p1 &&& (15 : Int32)) (own_rem (p0 &&& (2147483647 : Int32)) (17 : Int32)) q2 q3 q4 q5)), (own_i2b (f1_0 (17 : Int32) (p1 &&& (15 : Int32)) (own_rem (p0 &&& (2147483647 : Int32)) (17 : Int32)) q2 q3 q4 q5)), (own_i2b (f1_0 (18 : Int32) (p1 &&& (15 : Int32)) (own_rem (p0 &&& (2147483647 : Int32)) (17 : Int32)) q2 q3 q4 q5)), (own_i2b (f1_0 (19 : Int32) (p1 &&& (15 : Int32)) (own_rem (p0 &&& (2147483647 : Int32)) (17 : Int32)) q2 q3 q4 q5)), (own_i2b (f1_0 (20 : Int32) (p1 &&& (15 : Int32)) (own_rem (p0 &&& (2147483647 : Int32)) (17 : Int32)) q2 q3 q4 q5)), (own_i2b (f1_0 (21 : Int32) (p1 &&& (15 : Int32)) (own_rem (p0 &&& (2147483647 : Int32)) (17 : Int32)) q2 q3 q4 q5)), (0 : Int32), (0 : Int32), (0 : Int32), (0 : Int32), (0 : Int32), (0 : Int32), (0 : Int32), (0 : Int32), (0 : Int32), (0 : Int32)]) X75 hx hZ e75 A74 ⟨by decide, Nat.le_of_ble_eq_true rfl⟩ (hb hby at_446) rfl rfl fun T76 h76 X76 e76 W76 A76 => ?_
  have Y76 := own_drop X76 g32
  refine o_dup (pc' := 448) Y76 hx (hb hby at_447) rfl rfl ?_
  refine o_bipush (pc' := 450) (x := (22 : Int32)) Y76 hx (hb hby at_448) (by decide) rfl ?_
  refine o_bipush (pc' := 452) (x := (22 : Int32)) Y76 hx (hb hby at_450) (by decide) rfl ?_
  refine o_iload (pc' := 454) Y76 hx (hb hby at_452) rfl rfl ?_
  refine o_iload (pc' := 456) Y76 hx (hb hby at_454) rfl rfl ?_
  refine o_lloadN (pc' := 457) Y76 hx (hb hby at_456) rfl rfl ?_
  refine o_lload (pc' := 459) Y76 hx (hb hby at_457) rfl rfl ?_
  refine o_lload (pc' := 461) Y76 hx (hb hby at_459) rfl rfl ?_
  refine o_lload (pc' := 463) Y76 hx (hb hby at_461) rfl rfl ?_
  refine o_callP (W := 3) (pc' := 466) (argsL := [(.int (22 : Int32)), (.int (p1 &&& (15 : Int32))), (.int (own_rem (p0 &&& (2147483647 : Int32)) (17 : Int32))), (.long q2), (.long q3), (.long q4), (.long q5)]) (rest := [(.int (22 : Int32)), (.ref b32), (.ref b32)]) (st' := [(.int (f1_0 (22 : Int32) (p1 &&& (15 : Int32)) (own_rem (p0 &&& (2147483647 : Int32)) (17 : Int32)) q2 q3 q4 q5)), (.int (22 : Int32)), (.ref b32), (.ref b32)]) Y76 hx hZ e76 hown (hw _ (List.mem_of_getElem? (i := 2) rfl)) (hw _ (List.mem_of_getElem? (i := 3) rfl)) (hw _ (List.mem_of_getElem? (i := 4) rfl)) (hw _ (List.mem_of_getElem? (i := 5) rfl)) (by decide) (rm1 l Z ag hw [] (22 : Int32) (p1 &&& (15 : Int32)) (own_rem (p0 &&& (2147483647 : Int32)) (17 : Int32)) q2 q3 q4 q5 h76) (by decide) (by decide) (by rw [hml]; rfl) pd_2 rfl rfl rfl rfl (hb hby at_463) rfl rfl rfl (by decide) (by decide) rfl fun T77 X77 e77 => ?_
  refine o_bastore (pc' := 467) (vs' := [(own_i2b (f1_0 (0 : Int32) (p1 &&& (15 : Int32)) (own_rem (p0 &&& (2147483647 : Int32)) (17 : Int32)) q2 q3 q4 q5)), (own_i2b (f1_0 (1 : Int32) (p1 &&& (15 : Int32)) (own_rem (p0 &&& (2147483647 : Int32)) (17 : Int32)) q2 q3 q4 q5)), (own_i2b (f1_0 (2 : Int32) (p1 &&& (15 : Int32)) (own_rem (p0 &&& (2147483647 : Int32)) (17 : Int32)) q2 q3 q4 q5)), (own_i2b (f1_0 (3 : Int32) (p1 &&& (15 : Int32)) (own_rem (p0 &&& (2147483647 : Int32)) (17 : Int32)) q2 q3 q4 q5)), (own_i2b (f1_0 (4 : Int32) (p1 &&& (15 : Int32)) (own_rem (p0 &&& (2147483647 : Int32)) (17 : Int32)) q2 q3 q4 q5)), (own_i2b (f1_0 (5 : Int32) (p1 &&& (15 : Int32)) (own_rem (p0 &&& (2147483647 : Int32)) (17 : Int32)) q2 q3 q4 q5)), (own_i2b (f1_0 (6 : Int32) (p1 &&& (15 : Int32)) (own_rem (p0 &&& (2147483647 : Int32)) (17 : Int32)) q2 q3 q4 q5)), (own_i2b (f1_0 (7 : Int32) (p1 &&& (15 : Int32)) (own_rem (p0 &&& (2147483647 : Int32)) (17 : Int32)) q2 q3 q4 q5)), (own_i2b (f1_0 (8 : Int32) (p1 &&& (15 : Int32)) (own_rem (p0 &&& (2147483647 : Int32)) (17 : Int32)) q2 q3 q4 q5)), (own_i2b (f1_0 (9 : Int32) (p1 &&& (15 : Int32)) (own_rem (p0 &&& (2147483647 : Int32)) (17 : Int32)) q2 q3 q4 q5)), (own_i2b (f1_0 (10 : Int32) (p1 &&& (15 : Int32)) (own_rem (p0 &&& (2147483647 : Int32)) (17 : Int32)) q2 q3 q4 q5)), (own_i2b (f1_0 (11 : Int32) (p1 &&& (15 : Int32)) (own_rem (p0 &&& (2147483647 : Int32)) (17 : Int32)) q2 q3 q4 q5)), (own_i2b (f1_0 (12 : Int32) (p1 &&& (15 : Int32)) (own_rem (p0 &&& (2147483647 : Int32)) (17 : Int32)) q2 q3 q4 q5)), (own_i2b (f1_0 (13 : Int32) (p1 &&& (15 : Int32)) (own_rem (p0 &&& (2147483647 : Int32)) (17 : Int32)) q2 q3 q4 q5)), (own_i2b (f1_0 (14 : Int32) (p1 &&& (15 : Int32)) (own_rem (p0 &&& (2147483647 : Int32)) (17 : Int32)) q2 q3 q4 q5)), (own_i2b (f1_0 (15 : Int32) (p1 &&& (15 : Int32)) (own_rem (p0 &&& (2147483647 : Int32)) (17 : Int32)) q2 q3 q4 q5)), (own_i2b (f1_0 (16 : Int32) (p1 &&& (15 : Int32)) (own_rem (p0 &&& (2147483647 : Int32)) (17 : Int32)) q2 q3 q4 q5)), (own_i2b (f1_0 (17 : Int32) (p1 &&& (15 : Int32)) (own_rem (p0 &&& (2147483647 : Int32)) (17 : Int32)) q2 q3 q4 q5)), (own_i2b (f1_0 (18 : Int32) (p1 &&& (15 : Int32)) (own_rem (p0 &&& (2147483647 : Int32)) (17 : Int32)) q2 q3 q4 q5)), (own_i2b (f1_0 (19 : Int32) (p1 &&& (15 : Int32)) (own_rem (p0 &&& (2147483647 : Int32)) (17 : Int32)) q2 q3 q4 q5)), (own_i2b (f1_0 (20 : Int32) (p1 &&& (15 : Int32)) (own_rem (p0 &&& (2147483647 : Int32)) (17 : Int32)) q2 q3 q4 q5)), (own_i2b (f1_0 (21 : Int32) (p1 &&& (15 : Int32)) (own_rem (p0 &&& (2147483647 : Int32)) (17 : Int32)) q2 q3 q4 q5)), (own_i2b (f1_0 (22 : Int32) (p1 &&& (15 : Int32)) (own_rem (p0 &&& (2147483647 : Int32)) (17 : Int32)) q2 q3 q4 q5)), (0 : Int32), (0 : Int32), (0 : Int32), (0 : Int32), (0 : Int32), (0 : Int32), (0 : Int32), (0 : Int32), (0 : Int32)]) X77 hx hZ e77 A76 ⟨by decide, Nat.le_of_ble_eq_true rfl⟩ (hb hby at_466) rfl rfl fun T78 h78 X78 e78 W78 A78 => ?_
  have Y78 := own_drop X78 g32
  refine o_dup (pc' := 468) Y78 hx (hb hby at_467) rfl rfl ?_
  refine o_bipush (pc' := 470) (x := (23 : Int32)) Y78 hx (hb hby at_468) (by decide) rfl ?_
  refine o_bipush (pc' := 472) (x := (23 : Int32)) Y78 hx (hb hby at_470) (by decide) rfl ?_
  refine o_iload (pc' := 474) Y78 hx (hb hby at_472) rfl rfl ?_
  refine o_iload (pc' := 476) Y78 hx (hb hby at_474) rfl rfl ?_
  refine o_lloadN (pc' := 477) Y78 hx (hb hby at_476) rfl rfl ?_
  refine o_lload (pc' := 479) Y78 hx (hb hby at_477) rfl rfl ?_
  refine o_lload (pc' := 481) Y78 hx (hb hby at_479) rfl rfl ?_
  refine o_lload (pc' := 483) Y78 hx (hb hby at_481) rfl rfl ?_
  refine o_callP (W := 3) (pc' := 486) (argsL := [(.int (23 : Int32)), (.int (p1 &&& (15 : Int32))), (.int (own_rem (p0 &&& (2147483647 : Int32)) (17 : Int32))), (.long q2), (.long q3), (.long q4), (.long q5)]) (rest := [(.int (23 : Int32)), (.ref b32), (.ref b32)]) (st' := [(.int (f1_0 (23 : Int32) (p1 &&& (15 : Int32)) (own_rem (p0 &&& (2147483647 : Int32)) (17 : Int32)) q2 q3 q4 q5)), (.int (23 : Int32)), (.ref b32), (.ref b32)]) Y78 hx hZ e78 hown (hw _ (List.mem_of_getElem? (i := 2) rfl)) (hw _ (List.mem_of_getElem? (i := 3) rfl)) (hw _ (List.mem_of_getElem? (i := 4) rfl)) (hw _ (List.mem_of_getElem? (i := 5) rfl)) (by decide) (rm1 l Z ag hw [] (23 : Int32) (p1 &&& (15 : Int32)) (own_rem (p0 &&& (2147483647 : Int32)) (17 : Int32)) q2 q3 q4 q5 h78) (by decide) (by decide) (by rw [hml]; rfl) pd_2 rfl rfl rfl rfl (hb hby at_483) rfl rfl rfl (by decide) (by decide) rfl fun T79 X79 e79 => ?_
  refine o_bastore (pc' := 487) (vs' := [(own_i2b (f1_0 (0 : Int32) (p1 &&& (15 : Int32)) (own_rem (p0 &&& (2147483647 : Int32)) (17 : Int32)) q2 q3 q4 q5)), (own_i2b (f1_0 (1 : Int32) (p1 &&& (15 : Int32)) (own_rem (p0 &&& (2147483647 : Int32)) (17 : Int32)) q2 q3 q4 q5)), (own_i2b (f1_0 (2 : Int32) (p1 &&& (15 : Int32)) (own_rem (p0 &&& (2147483647 : Int32)) (17 : Int32)) q2 q3 q4 q5)), (own_i2b (f1_0 (3 : Int32) (p1 &&& (15 : Int32)) (own_rem (p0 &&& (2147483647 : Int32)) (17 : Int32)) q2 q3 q4 q5)), (own_i2b (f1_0 (4 : Int32) (p1 &&& (15 : Int32)) (own_rem (p0 &&& (2147483647 : Int32)) (17 : Int32)) q2 q3 q4 q5)), (own_i2b (f1_0 (5 : Int32) (p1 &&& (15 : Int32)) (own_rem (p0 &&& (2147483647 : Int32)) (17 : Int32)) q2 q3 q4 q5)), (own_i2b (f1_0 (6 : Int32) (p1 &&& (15 : Int32)) (own_rem (p0 &&& (2147483647 : Int32)) (17 : Int32)) q2 q3 q4 q5)), (own_i2b (f1_0 (7 : Int32) (p1 &&& (15 : Int32)) (own_rem (p0 &&& (2147483647 : Int32)) (17 : Int32)) q2 q3 q4 q5)), (own_i2b (f1_0 (8 : Int32) (p1 &&& (15 : Int32)) (own_rem (p0 &&& (2147483647 : Int32)) (17 : Int32)) q2 q3 q4 q5)), (own_i2b (f1_0 (9 : Int32) (p1 &&& (15 : Int32)) (own_rem (p0 &&& (2147483647 : Int32)) (17 : Int32)) q2 q3 q4 q5)), (own_i2b (f1_0 (10 : Int32) (p1 &&& (15 : Int32)) (own_rem (p0 &&& (2147483647 : Int32)) (17 : Int32)) q2 q3 q4 q5)), (own_i2b (f1_0 (11 : Int32) (p1 &&& (15 : Int32)) (own_rem (p0 &&& (2147483647 : Int32)) (17 : Int32)) q2 q3 q4 q5)), (own_i2b (f1_0 (12 : Int32) (p1 &&& (15 : Int32)) (own_rem (p0 &&& (2147483647 : Int32)) (17 : Int32)) q2 q3 q4 q5)), (own_i2b (f1_0 (13 : Int32) (p1 &&& (15 : Int32)) (own_rem (p0 &&& (2147483647 : Int32)) (17 : Int32)) q2 q3 q4 q5)), (own_i2b (f1_0 (14 : Int32) (p1 &&& (15 : Int32)) (own_rem (p0 &&& (2147483647 : Int32)) (17 : Int32)) q2 q3 q4 q5)), (own_i2b (f1_0 (15 : Int32) (p1 &&& (15 : Int32)) (own_rem (p0 &&& (2147483647 : Int32)) (17 : Int32)) q2 q3 q4 q5)), (own_i2b (f1_0 (16 : Int32) (p1 &&& (15 : Int32)) (own_rem (p0 &&& (2147483647 : Int32)) (17 : Int32)) q2 q3 q4 q5)), (own_i2b (f1_0 (17 : Int32) (p1 &&& (15 : Int32)) (own_rem (p0 &&& (2147483647 : Int32)) (17 : Int32)) q2 q3 q4 q5)), (own_i2b (f1_0 (18 : Int32) (p1 &&& (15 : Int32)) (own_rem (p0 &&& (2147483647 : Int32)) (17 : Int32)) q2 q3 q4 q5)), (own_i2b (f1_0 (19 : Int32) (p1 &&& (15 : Int32)) (own_rem (p0 &&& (2147483647 : Int32)) (17 : Int32)) q2 q3 q4 q5)), (own_i2b (f1_0 (20 : Int32) (p1 &&& (15 : Int32)) (own_rem (p0 &&& (2147483647 : Int32)) (17 : Int32)) q2 q3 q4 q5)), (own_i2b (f1_0 (21 : Int32) (p1 &&& (15 : Int32)) (own_rem (p0 &&& (2147483647 : Int32)) (17 : Int32)) q2 q3 q4 q5)), (own_i2b (f1_0 (22 : Int32) (p1 &&& (15 : Int32)) (own_rem (p0 &&& (2147483647 : Int32)) (17 : Int32)) q2 q3 q4 q5)), (own_i2b (f1_0 (23 : Int32) (p1 &&& (15 : Int32)) (own_rem (p0 &&& (2147483647 : Int32)) (17 : Int32)) q2 q3 q4 q5)), (0 : Int32), (0 : Int32), (0 : Int32), (0 : Int32), (0 : Int32), (0 : Int32), (0 : Int32), (0 : Int32)]) X79 hx hZ e79 A78 ⟨by decide, Nat.le_of_ble_eq_true rfl⟩ (hb hby at_486) rfl rfl fun T80 h80 X80 e80 W80 A80 => ?_
  have Y80 := own_drop X80 g32
  refine o_dup (pc' := 488) Y80 hx (hb hby at_487) rfl rfl ?_
  refine o_bipush (pc' := 490) (x := (24 : Int32)) Y80 hx (hb hby at_488) (by decide) rfl ?_
  refine o_bipush (pc' := 492) (x := (24 : Int32)) Y80 hx (hb hby at_490) (by decide) rfl ?_
  refine o_iload (pc' := 494) Y80 hx (hb hby at_492) rfl rfl ?_
  refine o_iload (pc' := 496) Y80 hx (hb hby at_494) rfl rfl ?_
  refine o_lloadN (pc' := 497) Y80 hx (hb hby at_496) rfl rfl ?_
  refine o_lload (pc' := 499) Y80 hx (hb hby at_497) rfl rfl ?_
  refine o_lload (pc' := 501) Y80 hx (hb hby at_499) rfl rfl ?_
  refine o_lload (pc' := 503) Y80 hx (hb hby at_501) rfl rfl ?_
  refine o_callP (W := 3) (pc' := 506) (argsL := [(.int (24 : Int32)), (.int (p1 &&& (15 : Int32))), (.int (own_rem (p0 &&& (2147483647 : Int32)) (17 : Int32))), (.long q2), (.long q3), (.long q4), (.long q5)]) (rest := [(.int (24 : Int32)), (.ref b32), (.ref b32)]) (st' := [(.int (f1_0 (24 : Int32) (p1 &&& (15 : Int32)) (own_rem (p0 &&& (2147483647 : Int32)) (17 : Int32)) q2 q3 q4 q5)), (.int (24 : Int32)), (.ref b32), (.ref b32)]) Y80 hx hZ e80 hown (hw _ (List.mem_of_getElem? (i := 2) rfl)) (hw _ (List.mem_of_getElem? (i := 3) rfl)) (hw _ (List.mem_of_getElem? (i := 4) rfl)) (hw _ (List.mem_of_getElem? (i := 5) rfl)) (by decide) (rm1 l Z ag hw [] (24 : Int32) (p1 &&& (15 : Int32)) (own_rem (p0 &&& (2147483647 : Int32)) (17 : Int32)) q2 q3 q4 q5 h80) (by decide) (by decide) (by rw [hml]; rfl) pd_2 rfl rfl rfl rfl (hb hby at_503) rfl rfl rfl (by decide) (by decide) rfl fun T81 X81 e81 => ?_
  refine o_bastore (pc' := 507) (vs' := [(own_i2b (f1_0 (0 : Int32) (p1 &&& (15 : Int32)) (own_rem (p0 &&& (2147483647 : Int32)) (17 : Int32)) q2 q3 q4 q5)), (own_i2b (f1_0 (1 : Int32) (p1 &&& (15 : Int32)) (own_rem (p0 &&& (2147483647 : Int32)) (17 : Int32)) q2 q3 q4 q5)), (own_i2b (f1_0 (2 : Int32) (p1 &&& (15 : Int32)) (own_rem (p0 &&& (2147483647 : Int32)) (17 : Int32)) q2 q3 q4 q5)), (own_i2b (f1_0 (3 : Int32) (p1 &&& (15 : Int32)) (own_rem (p0 &&& (2147483647 : Int32)) (17 : Int32)) q2 q3 q4 q5)), (own_i2b (f1_0 (4 : Int32) (p1 &&& (15 : Int32)) (own_rem (p0 &&& (2147483647 : Int32)) (17 : Int32)) q2 q3 q4 q5)), (own_i2b (f1_0 (5 : Int32) (p1 &&& (15 : Int32)) (own_rem (p0 &&& (2147483647 : Int32)) (17 : Int32)) q2 q3 q4 q5)), (own_i2b (f1_0 (6 : Int32) (p1 &&& (15 : Int32)) (own_rem (p0 &&& (2147483647 : Int32)) (17 : Int32)) q2 q3 q4 q5)), (own_i2b (f1_0 (7 : Int32) (p1 &&& (15 : Int32)) (own_rem (p0 &&& (2147483647 : Int32)) (17 : Int32)) q2 q3 q4 q5)), (own_i2b (f1_0 (8 : Int32) (p1 &&& (15 : Int32)) (own_rem (p0 &&& (2147483647 : Int32)) (17 : Int32)) q2 q3 q4 q5)), (own_i2b (f1_0 (9 : Int32) (p1 &&& (15 : Int32)) (own_rem (p0 &&& (2147483647 : Int32)) (17 : Int32)) q2 q3 q4 q5)), (own_i2b (f1_0 (10 : Int32) (p1 &&& (15 : Int32)) (own_rem (p0 &&& (2147483647 : Int32)) (17 : Int32)) q2 q3 q4 q5)), (own_i2b (f1_0 (11 : Int32) (p1 &&& (15 : Int32)) (own_rem (p0 &&& (2147483647 : Int32)) (17 : Int32)) q2 q3 q4 q5)), (own_i2b (f1_0 (12 : Int32) (p1 &&& (15 : Int32)) (own_rem (p0 &&& (2147483647 : Int32)) (17 : Int32)) q2 q3 q4 q5)), (own_i2b (f1_0 (13 : Int32) (p1 &&& (15 : Int32)) (own_rem (p0 &&& (2147483647 : Int32)) (17 : Int32)) q2 q3 q4 q5)), (own_i2b (f1_0 (14 : Int32) (p1 &&& (15 : Int32)) (own_rem (p0 &&& (2147483647 : Int32)) (17 : Int32)) q2 q3 q4 q5)), (own_i2b (f1_0 (15 : Int32) (p1 &&& (15 : Int32)) (own_rem (p0 &&& (2147483647 : Int32)) (17 : Int32)) q2 q3 q4 q5)), (own_i2b (f1_0 (16 : Int32) (p1 &&& (15 : Int32)) (own_rem (p0 &&& (2147483647 : Int32)) (17 : Int32)) q2 q3 q4 q5)), (own_i2b (f1_0 (17 : Int32) (p1 &&& (15 : Int32)) (own_rem (p0 &&& (2147483647 : Int32)) (17 : Int32)) q2 q3 q4 q5)), (own_i2b (f1_0 (18 : Int32) (p1 &&& (15 : Int32)) (own_rem (p0 &&& (2147483647 : Int32)) (17 : Int32)) q2 q3 q4 q5)), (own_i2b (f1_0 (19 : Int32) (p1 &&& (15 : Int32)) (own_rem (p0 &&& (2147483647 : Int32)) (17 : Int32)) q2 q3 q4 q5)), (own_i2b (f1_0 (20 : Int32) (p1 &&& (15 : Int32)) (own_rem (p0 &&& (2147483647 : Int32)) (17 : Int32)) q2 q3 q4 q5)), (own_i2b (f1_0 (21 : Int32) (p1 &&& (15 : Int32)) (own_rem (p0 &&& (2147483647 : Int32)) (17 : Int32)) q2 q3 q4 q5)), (own_i2b (f1_0 (22 : Int32) (p1 &&& (15 : Int32)) (own_rem (p0 &&& (2147483647 : Int32)) (17 : Int32)) q2 q3 q4 q5)), (own_i2b (f1_0 (23 : Int32) (p1 &&& (15 : Int32)) (own_rem (p0 &&& (2147483647 : Int32)) (17 : Int32)) q2 q3 q4 q5)), (own_i2b (f1_0 (24 : Int32) (p1 &&& (15 : Int32)) (own_rem (p0 &&& (2147483647 : Int32)) (17 : Int32)) q2 q3 q4 q5)), (0 : Int32), (0 : Int32), (0 : Int32), (0 : Int32), (0 : Int32), (0 : Int32), (0 : Int32)]) X81 hx hZ e81 A80 ⟨by decide, Nat.le_of_ble_eq_true rfl⟩ (hb hby at_506) rfl rfl fun T82 h82 X82 e82 W82 A82 => ?_
  have Y82 := own_drop X82 g32
  refine o_dup (pc' := 508) Y82 hx (hb hby at_507) rfl rfl ?_
  refine o_bipush (pc' := 510) (x := (25 : Int32)) Y82 hx (hb hby at_508) (by decide) rfl ?_
  refine o_bipush (pc' := 512) (x := (25 : Int32)) Y82 hx (hb hby at_510) (by decide) rfl ?_
  refine o_iload (pc' := 514) Y82 hx (hb hby at_512) rfl rfl ?_
  refine o_iload (pc' := 516) Y82 hx (hb hby at_514) rfl rfl ?_
  refine o_lloadN (pc' := 517) Y82 hx (hb hby at_516) rfl rfl ?_
  refine o_lload (pc' := 519) Y82 hx (hb hby at_517) rfl rfl ?_
  refine o_lload (pc' := 521) Y82 hx (hb hby at_519) rfl rfl ?_
  refine o_lload (pc' := 523) Y82 hx (hb hby at_521) rfl rfl ?_
  refine o_callP (W := 3) (pc' := 526) (argsL := [(.int (25 : Int32)), (.int (p1 &&& (15 : Int32))), (.int (own_rem (p0 &&& (2147483647 : Int32)) (17 : Int32))), (.long q2), (.long q3), (.long q4), (.long q5)]) (rest := [(.int (25 : Int32)), (.ref b32), (.ref b32)]) (st' := [(.int (f1_0 (25 : Int32) (p1 &&& (15 : Int32)) (own_rem (p0 &&& (2147483647 : Int32)) (17 : Int32)) q2 q3 q4 q5)), (.int (25 : Int32)), (.ref b32), (.ref b32)]) Y82 hx hZ e82 hown (hw _ (List.mem_of_getElem? (i := 2) rfl)) (hw _ (List.mem_of_getElem? (i := 3) rfl)) (hw _ (List.mem_of_getElem? (i := 4) rfl)) (hw _ (List.mem_of_getElem? (i := 5) rfl)) (by decide) (rm1 l Z ag hw [] (25 : Int32) (p1 &&& (15 : Int32)) (own_rem (p0 &&& (2147483647 : Int32)) (17 : Int32)) q2 q3 q4 q5 h82) (by decide) (by decide) (by rw [hml]; rfl) pd_2 rfl rfl rfl rfl (hb hby at_523) rfl rfl rfl (by decide) (by decide) rfl fun T83 X83 e83 => ?_
  refine o_bastore (pc' := 527) (vs' := [(own_i2b (f1_0 (0 : Int32) (p1 &&& (15 : Int32)) (own_rem (p0 &&& (2147483647 : Int32)) (17 : Int32)) q2 q3 q4 q5)), (own_i2b (f1_0 (1 : Int32) (p1 &&& (15 : Int32)) (own_rem (p0 &&& (2147483647 : Int32)) (17 : Int32)) q2 q3 q4 q5)), (own_i2b (f1_0 (2 : Int32) (p1 &&& (15 : Int32)) (own_rem (p0 &&& (2147483647 : Int32)) (17 : Int32)) q2 q3 q4 q5)), (own_i2b (f1_0 (3 : Int32) (p1 &&& (15 : Int32)) (own_rem (p0 &&& (2147483647 : Int32)) (17 : Int32)) q2 q3 q4 q5)), (own_i2b (f1_0 (4 : Int32) (p1 &&& (15 : Int32)) (own_rem (p0 &&& (2147483647 : Int32)) (17 : Int32)) q2 q3 q4 q5)), (own_i2b (f1_0 (5 : Int32) (p1 &&& (15 : Int32)) (own_rem (p0 &&& (2147483647 : Int32)) (17 : Int32)) q2 q3 q4 q5)), (own_i2b (f1_0 (6 : Int32) (p1 &&& (15 : Int32)) (own_rem (p0 &&& (2147483647 : Int32)) (17 : Int32)) q2 q3 q4 q5)), (own_i2b (f1_0 (7 : Int32) (p1 &&& (15 : Int32)) (own_rem (p0 &&& (2147483647 : Int32)) (17 : Int32)) q2 q3 q4 q5)), (own_i2b (f1_0 (8 : Int32) (p1 &&& (15 : Int32)) (own_rem (p0 &&& (2147483647 : Int32)) (17 : Int32)) q2 q3 q4 q5)), (own_i2b (f1_0 (9 : Int32) (p1 &&& (15 : Int32)) (own_rem (p0 &&& (2147483647 : Int32)) (17 : Int32)) q2 q3 q4 q5)), (own_i2b (f1_0 (10 : Int32) (p1 &&& (15 : Int32)) (own_rem (p0 &&& (2147483647 : Int32)) (17 : Int32)) q2 q3 q4 q5)), (own_i2b (f1_0 (11 : Int32) (p1 &&& (15 : Int32)) (own_rem (p0 &&& (2147483647 : Int32)) (17 : Int32)) q2 q3 q4 q5)), (own_i2b (f1_0 (12 : Int32) (p1 &&& (15 : Int32)) (own_rem (p0 &&& (2147483647 : Int32)) (17 : Int32)) q2 q3 q4 q5)), (own_i2b (f1_0 (13 : Int32) (p1 &&& (15 : Int32)) (own_rem (p0 &&& (2147483647 : Int32)) (17 : Int32)) q2 q3 q4 q5)), (own_i2b (f1_0 (14 : Int32) (p1 &&& (15 : Int32)) (own_rem (p0 &&& (2147483647 : Int32)) (17 : Int32)) q2 q3 q4 q5)), (own_i2b (f1_0 (15 : Int32) (p1 &&& (15 : Int32)) (own_rem (p0 &&& (2147483647 : Int32)) (17 : Int32)) q2 q3 q4 q5)), (own_i2b (f1_0 (16 : Int32) (p1 &&& (15 : Int32)) (own_rem (p0 &&& (2147483647 : Int32)) (17 : Int32)) q2 q3 q4 q5)), (own_i2b (f1_0 (17 : Int32) (p1 &&& (15 : Int32)) (own_rem (p0 &&& (2147483647 : Int32)) (17 : Int32)) q2 q3 q4 q5)), (own_i2b (f1_0 (18 : Int32) (p1 &&& (15 : Int32)) (own_rem (p0 &&& (2147483647 : Int32)) (17 : Int32)) q2 q3 q4 q5)), (own_i2b (f1_0 (19 : Int32) (p1 &&& (15 : Int32)) (own_rem (p0 &&& (2147483647 : Int32)) (17 : Int32)) q2 q3 q4 q5)), (own_i2b (f1_0 (20 : Int32) (p1 &&& (15 : Int32)) (own_rem (p0 &&& (2147483647 : Int32)) (17 : Int32)) q2 q3 q4 q5)), (own_i2b (f1_0 (21 : Int32) (p1 &&& (15 : Int32)) (own_rem (p0 &&& (2147483647 : Int32)) (17 : Int32)) q2 q3 q4 q5)), (own_i2b (f1_0 (22 : Int32) (p1 &&& (15 : Int32)) (own_rem (p0 &&& (2147483647 : Int32)) (17 : Int32)) q2 q3 q4 q5)), (own_i2b (f1_0 (23 : Int32) (p1 &&& (15 : Int32)) (own_rem (p0 &&& (2147483647 : Int32)) (17 : Int32)) q2 q3 q4 q5)), (own_i2b (f1_0 (24 : Int32) (p1 &&& (15 : Int32)) (own_rem (p0 &&& (2147483647 : Int32)) (17 : Int32)) q2 q3 q4 q5)), (own_i2b (f1_0 (25 : Int32) (p1 &&& (15 : Int32)) (own_rem (p0 &&& (2147483647 : Int32)) (17 : Int32)) q2 q3 q4 q5)), (0 : Int32), (0 : Int32), (0 : Int32), (0 : Int32), (0 : Int32), (0 : Int32)]) X83 hx hZ e83 A82 ⟨by decide, Nat.le_of_ble_eq_true rfl⟩ (hb hby at_526) rfl rfl fun T84 h84 X84 e84 W84 A84 => ?_
  have Y84 := own_drop X84 g32
  refine o_dup (pc' := 528) Y84 hx (hb hby at_527) rfl rfl ?_
  refine o_bipush (pc' := 530) (x := (26 : Int32)) Y84 hx (hb hby at_528) (by decide) rfl ?_
  refine o_bipush (pc' := 532) (x := (26 : Int32)) Y84 hx (hb hby at_530) (by decide) rfl ?_
  refine o_iload (pc' := 534) Y84 hx (hb hby at_532) rfl rfl ?_
  refine o_iload (pc' := 536) Y84 hx (hb hby at_534) rfl rfl ?_
  refine o_lloadN (pc' := 537) Y84 hx (hb hby at_536) rfl rfl ?_
  refine o_lload (pc' := 539) Y84 hx (hb hby at_537) rfl rfl ?_
  refine o_lload (pc' := 541) Y84 hx (hb hby at_539) rfl rfl ?_
  refine o_lload (pc' := 543) Y84 hx (hb hby at_541) rfl rfl ?_
  refine o_callP (W := 3) (pc' := 546) (argsL := [(.int (26 : Int32)), (.int (p1 &&& (15 : Int32))), (.int (own_rem (p0 &&& (2147483647 : Int32)) (17 : Int32))), (.long q2), (.long q3), (.long q4), (.long q5)]) (rest := [(.int (26 : Int32)), (.ref b32), (.ref b32)]) (st' := [(.int (f1_0 (26 : Int32) (p1 &&& (15 : Int32)) (own_rem (p0 &&& (2147483647 : Int32)) (17 : Int32)) q2 q3 q4 q5)), (.int (26 : Int32)), (.ref b32), (.ref b32)]) Y84 hx hZ e84 hown (hw _ (List.mem_of_getElem? (i := 2) rfl)) (hw _ (List.mem_of_getElem? (i := 3) rfl)) (hw _ (List.mem_of_getElem? (i := 4) rfl)) (hw _ (List.mem_of_getElem? (i := 5) rfl)) (by decide) (rm1 l Z ag hw [] (26 : Int32) (p1 &&& (15 : Int32)) (own_rem (p0 &&& (2147483647 : Int32)) (17 : Int32)) q2 q3 q4 q5 h84) (by decide) (by decide) (by rw [hml]; rfl) pd_2 rfl rfl rfl rfl (hb hby at_543) rfl rfl rfl (by decide) (by decide) rfl fun T85 X85 e85 => ?_
  refine o_bastore (pc' := 547) (vs' := [(own_i2b (f1_0 (0 : Int32) (p1 &&& (15 : Int32)) (own_rem (p0 &&& (2147483647 : Int32)) (17 : Int32)) q2 q3 q4 q5)), (own_i2b (f1_0 (1 : Int32) (p1 &&& (15 : Int32)) (own_rem (p0 &&& (2147483647 : Int32)) (17 : Int32)) q2 q3 q4 q5)), (own_i2b (f1_0 (2 : Int32) (p1 &&& (15 : Int32)) (own_rem (p0 &&& (2147483647 : Int32)) (17 : Int32)) q2 q3 q4 q5)), (own_i2b (f1_0 (3 : Int32) (p1 &&& (15 : Int32)) (own_rem (p0 &&& (2147483647 : Int32)) (17 : Int32)) q2 q3 q4 q5)), (own_i2b (f1_0 (4 : Int32) (p1 &&& (15 : Int32)) (own_rem (p0 &&& (2147483647 : Int32)) (17 : Int32)) q2 q3 q4 q5)), (own_i2b (f1_0 (5 : Int32) (p1 &&& (15 : Int32)) (own_rem (p0 &&& (2147483647 : Int32)) (17 : Int32)) q2 q3 q4 q5)), (own_i2b (f1_0 (6 : Int32) (p1 &&& (15 : Int32)) (own_rem (p0 &&& (2147483647 : Int32)) (17 : Int32)) q2 q3 q4 q5)), (own_i2b (f1_0 (7 : Int32) (p1 &&& (15 : Int32)) (own_rem (p0 &&& (2147483647 : Int32)) (17 : Int32)) q2 q3 q4 q5)), (own_i2b (f1_0 (8 : Int32) (p1 &&& (15 : Int32)) (own_rem (p0 &&& (2147483647 : Int32)) (17 : Int32)) q2 q3 q4 q5)), (own_i2b (f1_0 (9 : Int32) (p1 &&& (15 : Int32)) (own_rem (p0 &&& (2147483647 : Int32)) (17 : Int32)) q2 q3 q4 q5)), (own_i2b (f1_0 (10 : Int32) (p1 &&& (15 : Int32)) (own_rem (p0 &&& (2147483647 : Int32)) (17 : Int32)) q2 q3 q4 q5)), (own_i2b (f1_0 (11 : Int32) (p1 &&& (15 : Int32)) (own_rem (p0 &&& (2147483647 : Int32)) (17 : Int32)) q2 q3 q4 q5)), (own_i2b (f1_0 (12 : Int32) (p1 &&& (15 : Int32)) (own_rem (p0 &&& (2147483647 : Int32)) (17 : Int32)) q2 q3 q4 q5)), (own_i2b (f1_0 (13 : Int32) (p1 &&& (15 : Int32)) (own_rem (p0 &&& (2147483647 : Int32)) (17 : Int32)) q2 q3 q4 q5)), (own_i2b (f1_0 (14 : Int32) (p1 &&& (15 : Int32)) (own_rem (p0 &&& (2147483647 : Int32)) (17 : Int32)) q2 q3 q4 q5)), (own_i2b (f1_0 (15 : Int32) (p1 &&& (15 : Int32)) (own_rem (p0 &&& (2147483647 : Int32)) (17 : Int32)) q2 q3 q4 q5)), (own_i2b (f1_0 (16 : Int32) (p1 &&& (15 : Int32)) (own_rem (p0 &&& (2147483647 : Int32)) (17 : Int32)) q2 q3 q4 q5)), (own_i2b (f1_0 (17 : Int32) (p1 &&& (15 : Int32)) (own_rem (p0 &&& (2147483647 : Int32)) (17 : Int32)) q2 q3 q4 q5)), (own_i2b (f1_0 (18 : Int32) (p1 &&& (15 : Int32)) (own_rem (p0 &&& (2147483647 : Int32)) (17 : Int32)) q2 q3 q4 q5)), (own_i2b (f1_0 (19 : Int32) (p1 &&& (15 : Int32)) (own_rem (p0 &&& (2147483647 : Int32)) (17 : Int32)) q2 q3 q4 q5)), (own_i2b (f1_0 (20 : Int32) (p1 &&& (15 : Int32)) (own_rem (p0 &&& (2147483647 : Int32)) (17 : Int32)) q2 q3 q4 q5)), (own_i2b (f1_0 (21 : Int32) (p1 &&& (15 : Int32)) (own_rem (p0 &&& (2147483647 : Int32)) (17 : Int32)) q2 q3 q4 q5)), (own_i2b (f1_0 (22 : Int32) (p1 &&& (15 : Int32)) (own_rem (p0 &&& (2147483647 : Int32)) (17 : Int32)) q2 q3 q4 q5)), (own_i2b (f1_0 (23 : Int32) (p1 &&& (15 : Int32)) (own_rem (p0 &&& (2147483647 : Int32)) (17 : Int32)) q2 q3 q4 q5)), (own_i2b (f1_0 (24 : Int32) (p1 &&& (15 : Int32)) (own_rem (p0 &&& (2147483647 : Int32)) (17 : Int32)) q2 q3 q4 q5)), (own_i2b (f1_0 (25 : Int32) (p1 &&& (15 : Int32)) (own_rem (p0 &&& (2147483647 : Int32)) (17 : Int32)) q2 q3 q4 q5)), (own_i2b (f1_0 (26 : Int32) (p1 &&& (15 : Int32)) (own_rem (p0 &&& (2147483647 : Int32)) (17 : Int32)) q2 q3 q4 q5)), (0 : Int32), (0 : Int32), (0 : Int32), (0 : Int32), (0 : Int32)]) X85 hx hZ e85 A84 ⟨by decide, Nat.le_of_ble_eq_true rfl⟩ (hb hby at_546) rfl rfl fun T86 h86 X86 e86 W86 A86 => ?_
  have Y86 := own_drop X86 g32
  refine o_dup (pc' := 548) Y86 hx (hb hby at_547) rfl rfl ?_
  refine o_bipush (pc' := 550) (x := (27 : Int32)) Y86 hx (hb hby at_548) (by decide) rfl ?_
  refine o_bipush (pc' := 552) (x := (27 : Int32)) Y86 hx (hb hby at_550) (by decide) rfl ?_
  refine o_iload (pc' := 554) Y86 hx (hb hby at_552) rfl rfl ?_
  refine o_iload (pc' := 556) Y86 hx (hb hby at_554) rfl rfl ?_
  refine o_lloadN (pc' := 557) Y86 hx (hb hby at_556) rfl rfl ?_
  refine o_lload (pc' := 559) Y86 hx (hb hby at_557) rfl rfl ?_
  refine o_lload (pc' := 561) Y86 hx (hb hby at_559) rfl rfl ?_
  refine o_lload (pc' := 563) Y86 hx (hb hby at_561) rfl rfl ?_
  refine o_callP (W := 3) (pc' := 566) (argsL := [(.int (27 : Int32)), (.int (p1 &&& (15 : Int32))), (.int (own_rem (p0 &&& (2147483647 : Int32)) (17 : Int32))), (.long q2), (.long q3), (.long q4), (.long q5)]) (rest := [(.int (27 : Int32)), (.ref b32), (.ref b32)]) (st' := [(.int (f1_0 (27 : Int32) (p1 &&& (15 : Int32)) (own_rem (p0 &&& (2147483647 : Int32)) (17 : Int32)) q2 q3 q4 q5)), (.int (27 : Int32)), (.ref b32), (.ref b32)]) Y86 hx hZ e86 hown (hw _ (List.mem_of_getElem? (i := 2) rfl)) (hw _ (List.mem_of_getElem? (i := 3) rfl)) (hw _ (List.mem_of_getElem? (i := 4) rfl)) (hw _ (List.mem_of_getElem? (i := 5) rfl)) (by decide) (rm1 l Z ag hw [] (27 : Int32) (p1 &&& (15 : Int32)) (own_rem (p0 &&& (2147483647 : Int32)) (17 : Int32)) q2 q3 q4 q5 h86) (by decide) (by decide) (by rw [hml]; rfl) pd_2 rfl rfl rfl rfl (hb hby at_563) rfl rfl rfl (by decide) (by decide) rfl fun T87 X87 e87 => ?_
  refine o_bastore (pc' := 567) (vs' := [(own_i2b (f1_0 (0 : Int32) (p1 &&& (15 : Int32)) (own_rem (p0 &&& (2147483647 : Int32)) (17 : Int32)) q2 q3 q4 q5)), (own_i2b (f1_0 (1 : Int32) (p1 &&& (15 : Int32)) (own_rem (p0 &&& (2147483647 : Int32)) (17 : Int32)) q2 q3 q4 q5)), (own_i2b (f1_0 (2 : Int32) (p1 &&& (15 : Int32)) (own_rem (p0 &&& (2147483647 : Int32)) (17 : Int32)) q2 q3 q4 q5)), (own_i2b (f1_0 (3 : Int32) (p1 &&& (15 : Int32)) (own_rem (p0 &&& (2147483647 : Int32)) (17 : Int32)) q2 q3 q4 q5)), (own_i2b (f1_0 (4 : Int32) (p1 &&& (15 : Int32)) (own_rem (p0 &&& (2147483647 : Int32)) (17 : Int32)) q2 q3 q4 q5)), (own_i2b (f1_0 (5 : Int32) (p1 &&& (15 : Int32)) (own_rem (p0 &&& (2147483647 : Int32)) (17 : Int32)) q2 q3 q4 q5)), (own_i2b (f1_0 (6 : Int32) (p1 &&& (15 : Int32)) (own_rem (p0 &&& (2147483647 : Int32)) (17 : Int32)) q2 q3 q4 q5)), (own_i2b (f1_0 (7 : Int32) (p1 &&& (15 : Int32)) (own_rem (p0 &&& (2147483647 : Int32)) (17 : Int32)) q2 q3 q4 q5)), (own_i2b (f1_0 (8 : Int32) (p1 &&& (15 : Int32)) (own_rem (p0 &&& (2147483647 : Int32)) (17 : Int32)) q2 q3 q4 q5)), (own_i2b (f1_0 (9 : Int32) (p1 &&& (15 : Int32)) (own_rem (p0 &&& (2147483647 : Int32)) (17 : Int32)) q2 q3 q4 q5)), (own_i2b (f1_0 (10 : Int32) (p1 &&& (15 : Int32)) (own_rem (p0 &&& (2147483647 : Int32)) (17 : Int32)) q2 q3 q4 q5)), (own_i2b (f1_0 (11 : Int32) (p1 &&& (15 : Int32)) (own_rem (p0 &&& (2147483647 : Int32)) (17 : Int32)) q2 q3 q4 q5)), (own_i2b (f1_0 (12 : Int32) (p1 &&& (15 : Int32)) (own_rem (p0 &&& (2147483647 : Int32)) (17 : Int32)) q2 q3 q4 q5)), (own_i2b (f1_0 (13 : Int32) (p1 &&& (15 : Int32)) (own_rem (p0 &&& (2147483647 : Int32)) (17 : Int32)) q2 q3 q4 q5)), (own_i2b (f1_0 (14 : Int32) (p1 &&& (15 : Int32)) (own_rem (p0 &&& (2147483647 : Int32)) (17 : Int32)) q2 q3 q4 q5)), (own_i2b (f1_0 (15 : Int32) (p1 &&& (15 : Int32)) (own_rem (p0 &&& (2147483647 : Int32)) (17 : Int32)) q2 q3 q4 q5)), (own_i2b (f1_0 (16 : Int32) (p1 &&& (15 : Int32)) (own_rem (p0 &&& (2147483647 : Int32)) (17 : Int32)) q2 q3 q4 q5)), (own_i2b (f1_0 (17 : Int32) (p1 &&& (15 : Int32)) (own_rem (p0 &&& (2147483647 : Int32)) (17 : Int32)) q2 q3 q4 q5)), (own_i2b (f1_0 (18 : Int32) (p1 &&& (15 : Int32)) (own_rem (p0 &&& (2147483647 : Int32)) (17 : Int32)) q2 q3 q4 q5)), (own_i2b (f1_0 (19 : Int32) (p1 &&& (15 : Int32)) (own_rem (p0 &&& (2147483647 : Int32)) (17 : Int32)) q2 q3 q4 q5)), (own_i2b (f1_0 (20 : Int32) (p1 &&& (15 : Int32)) (own_rem (p0 &&& (2147483647 : Int32)) (17 : Int32)) q2 q3 q4 q5)), (own_i2b (f1_0 (21 : Int32) (p1 &&& (15 : Int32)) (own_rem (p0 &&& (2147483647 : Int32)) (17 : Int32)) q2 q3 q4 q5)), (own_i2b (f1_0 (22 : Int32) (p1 &&& (15 : Int32)) (own_rem (p0 &&& (2147483647 : Int32)) (17 : Int32)) q2 q3 q4 q5)), (own_i2b (f1_0 (23 : Int32) (p1 &&& (15 : Int32)) (own_rem (p0 &&& (2147483647 : Int32)) (17 : Int32)) q2 q3 q4 q5)), (own_i2b (f1_0 (24 : Int32) (p1 &&& (15 : Int32)) (own_rem (p0 &&& (2147483647 : Int32)) (17 : Int32)) q2 q3 q4 q5)), (own_i2b (f1_0 (25 : Int32) (p1 &&& (15 : Int32)) (own_rem (p0 &&& (2147483647 : Int32)) (17 : Int32)) q2 q3 q4 q5)), (own_i2b (f1_0 (26 : Int32) (p1 &&& (15 : Int32)) (own_rem (p0 &&& (2147483647 : Int32)) (17 : Int32)) q2 q3 q4 q5)), (own_i2b (f1_0 (27 : Int32) (p1 &&& (15 : Int32)) (own_rem (p0 &&& (2147483647 : Int32)) (17 : Int32)) q2 q3 q4 q5)), (0 : Int32), (0 : Int32), (0 : Int32), (0 : Int32)]) X87 hx hZ e87 A86 ⟨by decide, Nat.le_of_ble_eq_true rfl⟩ (hb hby at_566) rfl rfl fun T88 h88 X88 e88 W88 A88 => ?_
  have Y88 := own_drop X88 g32
  refine o_dup (pc' := 568) Y88 hx (hb hby at_567) rfl rfl ?_
  refine o_bipush (pc' := 570) (x := (28 : Int32)) Y88 hx (hb hby at_568) (by decide) rfl ?_
  refine o_bipush (pc' := 572) (x := (28 : Int32)) Y88 hx (hb hby at_570) (by decide) rfl ?_
  refine o_iload (pc' := 574) Y88 hx (hb hby at_572) rfl rfl ?_
  refine o_iload (pc' := 576) Y88 hx (hb hby at_574) rfl rfl ?_
  refine o_lloadN (pc' := 577) Y88 hx (hb hby at_576) rfl rfl ?_
  refine o_lload (pc' := 579) Y88 hx (hb hby at_577) rfl rfl ?_
  refine o_lload (pc' := 581) Y88 hx (hb hby at_579) rfl rfl ?_
  refine o_lload (pc' := 583) Y88 hx (hb hby at_581) rfl rfl ?_
  refine o_callP (W := 3) (pc' := 586) (argsL := [(.int (28 : Int32)), (.int (p1 &&& (15 : Int32))), (.int (own_rem (p0 &&& (2147483647 : Int32)) (17 : Int32))), (.long q2), (.long q3), (.long q4), (.long q5)]) (rest := [(.int (28 : Int32)), (.ref b32), (.ref b32)]) (st' := [(.int (f1_0 (28 : Int32) (p1 &&& (15 : Int32)) (own_rem (p0 &&& (2147483647 : Int32)) (17 : Int32)) q2 q3 q4 q5)), (.int (28 : Int32)), (.ref b32), (.ref b32)]) Y88 hx hZ e88 hown (hw _ (List.mem_of_getElem? (i := 2) rfl)) (hw _ (List.mem_of_getElem? (i := 3) rfl)) (hw _ (List.mem_of_getElem? (i := 4) rfl)) (hw _ (List.mem_of_getElem? (i := 5) rfl)) (by decide) (rm1 l Z ag hw [] (28 : Int32) (p1 &&& (15 : Int32)) (own_rem (p0 &&& (2147483647 : Int32)) (17 : Int32)) q2 q3 q4 q5 h88) (by decide) (by decide) (by rw [hml]; rfl) pd_2 rfl rfl rfl rfl (hb hby at_583) rfl rfl rfl (by decide) (by decide) rfl fun T89 X89 e89 => ?_
  refine o_bastore (pc' := 587) (vs' := [(own_i2b (f1_0 (0 : Int32) (p1 &&& (15 : Int32)) (own_rem (p0 &&& (2147483647 : Int32)) (17 : Int32)) q2 q3 q4 q5)), (own_i2b (f1_0 (1 : Int32) (p1 &&& (15 : Int32)) (own_rem (p0 &&& (2147483647 : Int32)) (17 : Int32)) q2 q3 q4 q5)), (own_i2b (f1_0 (2 : Int32) (p1 &&& (15 : Int32)) (own_rem (p0 &&& (2147483647 : Int32)) (17 : Int32)) q2 q3 q4 q5)), (own_i2b (f1_0 (3 : Int32) (p1 &&& (15 : Int32)) (own_rem (p0 &&& (2147483647 : Int32)) (17 : Int32)) q2 q3 q4 q5)), (own_i2b (f1_0 (4 : Int32) (p1 &&& (15 : Int32)) (own_rem (p0 &&& (2147483647 : Int32)) (17 : Int32)) q2 q3 q4 q5)), (own_i2b (f1_0 (5 : Int32) (p1 &&& (15 : Int32)) (own_rem (p0 &&& (2147483647 : Int32)) (17 : Int32)) q2 q3 q4 q5)), (own_i2b (f1_0 (6 : Int32) (p1 &&& (15 : Int32)) (own_rem (p0 &&& (2147483647 : Int32)) (17 : Int32)) q2 q3 q4 q5)), (own_i2b (f1_0 (7 : Int32) (p1 &&& (15 : Int32)) (own_rem (p0 &&& (2147483647 : Int32)) (17 : Int32)) q2 q3 q4 q5)), (own_i2b (f1_0 (8 : Int32) (p1 &&& (15 : Int32)) (own_rem (p0 &&& (2147483647 : Int32)) (17 : Int32)) q2 q3 q4 q5)), (own_i2b (f1_0 (9 : Int32) (p1 &&& (15 : Int32)) (own_rem (p0 &&& (2147483647 : Int32)) (17 : Int32)) q2 q3 q4 q5)), (own_i2b (f1_0 (10 : Int32) (p1 &&& (15 : Int32)) (own_rem (p0 &&& (2147483647 : Int32)) (17 : Int32)) q2 q3 q4 q5)), (own_i2b (f1_0 (11 : Int32) (p1 &&& (15 : Int32)) (own_rem (p0 &&& (2147483647 : Int32)) (17 : Int32)) q2 q3 q4 q5)), (own_i2b (f1_0 (12 : Int32) (p1 &&& (15 : Int32)) (own_rem (p0 &&& (2147483647 : Int32)) (17 : Int32)) q2 q3 q4 q5)), (own_i2b (f1_0 (13 : Int32) (p1 &&& (15 : Int32)) (own_rem (p0 &&& (2147483647 : Int32)) (17 : Int32)) q2 q3 q4 q5)), (own_i2b (f1_0 (14 : Int32) (p1 &&& (15 : Int32)) (own_rem (p0 &&& (2147483647 : Int32)) (17 : Int32)) q2 q3 q4 q5)), (own_i2b (f1_0 (15 : Int32) (p1 &&& (15 : Int32)) (own_rem (p0 &&& (2147483647 : Int32)) (17 : Int32)) q2 q3 q4 q5)), (own_i2b (f1_0 (16 : Int32) (p1 &&& (15 : Int32)) (own_rem (p0 &&& (2147483647 : Int32)) (17 : Int32)) q2 q3 q4 q5)), (own_i2b (f1_0 (17 : Int32) (p1 &&& (15 : Int32)) (own_rem (p0 &&& (2147483647 : Int32)) (17 : Int32)) q2 q3 q4 q5)), (own_i2b (f1_0 (18 : Int32) (p1 &&& (15 : Int32)) (own_rem (p0 &&& (2147483647 : Int32)) (17 : Int32)) q2 q3 q4 q5)), (own_i2b (f1_0 (19 : Int32) (p1 &&& (15 : Int32)) (own_rem (p0 &&& (2147483647 : Int32)) (17 : Int32)) q2 q3 q4 q5)), (own_i2b (f1_0 (20 : Int32) (p1 &&& (15 : Int32)) (own_rem (p0 &&& (2147483647 : Int32)) (17 : Int32)) q2 q3 q4 q5)), (own_i2b (f1_0 (21 : Int32) (p1 &&& (15 : Int32)) (own_rem (p0 &&& (2147483647 : Int32)) (17 : Int32)) q2 q3 q4 q5)), (own_i2b (f1_0 (22 : Int32) (p1 &&& (15 : Int32)) (own_rem (p0 &&& (2147483647 : Int32)) (17 : Int32)) q2 q3 q4 q5)), (own_i2b (f1_0 (23 : Int32) (p1 &&& (15 : Int32)) (own_rem (p0 &&& (2147483647 : Int32)) (17 : Int32)) q2 q3 q4 q5)), (own_i2b (f1_0 (24 : Int32) (p1 &&& (15 : Int32)) (own_rem (p0 &&& (2147483647 : Int32)) (17 : Int32)) q2 q3 q4 q5)), (own_i2b (f1_0 (25 : Int32) (p1 &&& (15 : Int32)) (own_rem (p0 &&& (2147483647 : Int32)) (17 : Int32)) q2 q3 q4 q5)), (own_i2b (f1_0 (26 : Int32) (p1 &&& (15 : Int32)) (own_rem (p0 &&& (2147483647 : Int32)) (17 : Int32)) q2 q3 q4 q5)), (own_i2b (f1_0 (27 : Int32) (p1 &&& (15 : Int32)) (own_rem (p0 &&& (2147483647 : Int32)) (17 : Int32)) q2 q3 q4 q5)), (own_i2b (f1_0 (28 : Int32) (p1 &&& (15 : Int32)) (own_rem (p0 &&& (2147483647 : Int32)) (17 : Int32)) q2 q3 q4 q5)), (0 : Int32), (0 : Int32), (0 : Int32)]) X89 hx hZ e89 A88 ⟨by decide, Nat.le_of_ble_eq_true rfl⟩ (hb hby at_586) rfl rfl fun T90 h90 X90 e90 W90 A90 => ?_
  have Y90 := own_drop X90 g32
  refine o_dup (pc' := 588) Y90 hx (hb hby at_587) rfl rfl ?_
  refine o_bipush (pc' := 590) (x := (29 : Int32)) Y90 hx (hb hby at_588) (by decide) rfl ?_
  refine o_bipush (pc' := 592) (x := (29 : Int32)) Y90 hx (hb hby at_590) (by decide) rfl ?_
  refine o_iload (pc' := 594) Y90 hx (hb hby at_592) rfl rfl ?_
  refine o_iload (pc' := 596) Y90 hx (hb hby at_594) rfl rfl ?_
  refine o_lloadN (pc' := 597) Y90 hx (hb hby at_596) rfl rfl ?_
  refine o_lload (pc' := 599) Y90 hx (hb hby at_597) rfl rfl ?_
  refine o_lload (pc' := 601) Y90 hx (hb hby at_599) rfl rfl ?_
  refine o_lload (pc' := 603) Y90 hx (hb hby at_601) rfl rfl ?_
  refine o_callP (W := 3) (pc' := 606) (argsL := [(.int (29 : Int32)), (.int (p1 &&& (15 : Int32))), (.int (own_rem (p0 &&& (2147483647 : Int32)) (17 : Int32))), (.long q2), (.long q3), (.long q4), (.long q5)]) (rest := [(.int (29 : Int32)), (.ref b32), (.ref b32)]) (st' := [(.int (f1_0 (29 : Int32) (p1 &&& (15 : Int32)) (own_rem (p0 &&& (2147483647 : Int32)) (17 : Int32)) q2 q3 q4 q5)), (.int (29 : Int32)), (.ref b32), (.ref b32)]) Y90 hx hZ e90 hown (hw _ (List.mem_of_getElem? (i := 2) rfl)) (hw _ (List.mem_of_getElem? (i := 3) rfl)) (hw _ (List.mem_of_getElem? (i := 4) rfl)) (hw _ (List.mem_of_getElem? (i := 5) rfl)) (by decide) (rm1 l Z ag hw [] (29 : Int32) (p1 &&& (15 : Int32)) (own_rem (p0 &&& (2147483647 : Int32)) (17 : Int32)) q2 q3 q4 q5 h90) (by decide) (by decide) (by rw [hml]; rfl) pd_2 rfl rfl rfl rfl (hb hby at_603) rfl rfl rfl (by decide) (by decide) rfl fun T91 X91 e91 => ?_
  refine o_bastore (pc' := 607) (vs' := [(own_i2b (f1_0 (0 : Int32) (p1 &&& (15 : Int32)) (own_rem (p0 &&& (2147483647 : Int32)) (17 : Int32)) q2 q3 q4 q5)), (own_i2b (f1_0 (1 : Int32) (p1 &&& (15 : Int32)) (own_rem (p0 &&& (2147483647 : Int32)) (17 : Int32)) q2 q3 q4 q5)), (own_i2b (f1_0 (2 : Int32) (p1 &&& (15 : Int32)) (own_rem (p0 &&& (2147483647 : Int32)) (17 : Int32)) q2 q3 q4 q5)), (own_i2b (f1_0 (3 : Int32) (p1 &&& (15 : Int32)) (own_rem (p0 &&& (2147483647 : Int32)) (17 : Int32)) q2 q3 q4 q5)), (own_i2b (f1_0 (4 : Int32) (p1 &&& (15 : Int32)) (own_rem (p0 &&& (2147483647 : Int32)) (17 : Int32)) q2 q3 q4 q5)), (own_i2b (f1_0 (5 : Int32) (p1 &&& (15 : Int32)) (own_rem (p0 &&& (2147483647 : Int32)) (17 : Int32)) q2 q3 q4 q5)), (own_i2b (f1_0 (6 : Int32) (p1 &&& (15 : Int32)) (own_rem (p0 &&& (2147483647 : Int32)) (17 : Int32)) q2 q3 q4 q5)), (own_i2b (f1_0 (7 : Int32) (p1 &&& (15 : Int32)) (own_rem (p0 &&& (2147483647 : Int32)) (17 : Int32)) q2 q3 q4 q5)), (own_i2b (f1_0 (8 : Int32) (p1 &&& (15 : Int32)) (own_rem (p0 &&& (2147483647 : Int32)) (17 : Int32)) q2 q3 q4 q5)), (own_i2b (f1_0 (9 : Int32) (p1 &&& (15 : Int32)) (own_rem (p0 &&& (2147483647 : Int32)) (17 : Int32)) q2 q3 q4 q5)), (own_i2b (f1_0 (10 : Int32) (p1 &&& (15 : Int32)) (own_rem (p0 &&& (2147483647 : Int32)) (17 : Int32)) q2 q3 q4 q5)), (own_i2b (f1_0 (11 : Int32) (p1 &&& (15 : Int32)) (own_rem (p0 &&& (2147483647 : Int32)) (17 : Int32)) q2 q3 q4 q5)), (own_i2b (f1_0 (12 : Int32) (p1 &&& (15 : Int32)) (own_rem (p0 &&& (2147483647 : Int32)) (17 : Int32)) q2 q3 q4 q5)), (own_i2b (f1_0 (13 : Int32) (p1 &&& (15 : Int32)) (own_rem (p0 &&& (2147483647 : Int32)) (17 : Int32)) q2 q3 q4 q5)), (own_i2b (f1_0 (14 : Int32) (p1 &&& (15 : Int32)) (own_rem (p0 &&& (2147483647 : Int32)) (17 : Int32)) q2 q3 q4 q5)), (own_i2b (f1_0 (15 : Int32) (p1 &&& (15 : Int32)) (own_rem (p0 &&& (2147483647 : Int32)) (17 : Int32)) q2 q3 q4 q5)), (own_i2b (f1_0 (16 : Int32) (p1 &&& (15 : Int32)) (own_rem (p0 &&& (2147483647 : Int32)) (17 : Int32)) q2 q3 q4 q5)), (own_i2b (f1_0 (17 : Int32) (p1 &&& (15 : Int32)) (own_rem (p0 &&& (2147483647 : Int32)) (17 : Int32)) q2 q3 q4 q5)), (own_i2b (f1_0 (18 : Int32) (p1 &&& (15 : Int32)) (own_rem (p0 &&& (2147483647 : Int32)) (17 : Int32)) q2 q3 q4 q5)), (own_i2b (f1_0 (19 : Int32) (p1 &&& (15 : Int32)) (own_rem (p0 &&& (2147483647 : Int32)) (17 : Int32)) q2 q3 q4 q5)), (own_i2b (f1_0 (20 : Int32) (p1 &&& (15 : Int32)) (own_rem (p0 &&& (2147483647 : Int32)) (17 : Int32)) q2 q3 q4 q5)), (own_i2b (f1_0 (21 : Int32) (p1 &&& (15 : Int32)) (own_rem (p0 &&& (2147483647 : Int32)) (17 : Int32)) q2 q3 q4 q5)), (own_i2b (f1_0 (22 : Int32) (p1 &&& (15 : Int32)) (own_rem (p0 &&& (2147483647 : Int32)) (17 : Int32)) q2 q3 q4 q5)), (own_i2b (f1_0 (23 : Int32) (p1 &&& (15 : Int32)) (own_rem (p0 &&& (2147483647 : Int32)) (17 : Int32)) q2 q3 q4 q5)), (own_i2b (f1_0 (24 : Int32) (p1 &&& (15 : Int32)) (own_rem (p0 &&& (2147483647 : Int32)) (17 : Int32)) q2 q3 q4 q5)), (own_i2b (f1_0 (25 : Int32) (p1 &&& (15 : Int32)) (own_rem (p0 &&& (2147483647 : Int32)) (17 : Int32)) q2 q3 q4 q5)), (own_i2b (f1_0 (26 : Int32) (p1 &&& (15 : Int32)) (own_rem (p0 &&& (2147483647 : Int32)) (17 : Int32)) q2 q3 q4 q5)), (own_i2b (f1_0 (27 : Int32) (p1 &&& (15 : Int32)) (own_rem (p0 &&& (2147483647 : Int32)) (17 : Int32)) q2 q3 q4 q5)), (own_i2b (f1_0 (28 : Int32) (p1 &&& (15 : Int32)) (own_rem (p0 &&& (2147483647 : Int32)) (17 : Int32)) q2 q3 q4 q5)), (own_i2b (f1_0 (29 : Int32) (p1 &&& (15 : Int32)) (own_rem (p0 &&& (2147483647 : Int32)) (17 : Int32)) q2 q3 q4 q5)), (0 : Int32), (0 : Int32)]) X91 hx hZ e91 A90 ⟨by decide, Nat.le_of_ble_eq_true rfl⟩ (hb hby at_606) rfl rfl fun T92 h92 X92 e92 W92 A92 => ?_
  have Y92 := own_drop X92 g32
  refine o_dup (pc' := 608) Y92 hx (hb hby at_607) rfl rfl ?_
  refine o_bipush (pc' := 610) (x := (30 : Int32)) Y92 hx (hb hby at_608) (by decide) rfl ?_
  refine o_bipush (pc' := 612) (x := (30 : Int32)) Y92 hx (hb hby at_610) (by decide) rfl ?_
  refine o_iload (pc' := 614) Y92 hx (hb hby at_612) rfl rfl ?_
  refine o_iload (pc' := 616) Y92 hx (hb hby at_614) rfl rfl ?_
  refine o_lloadN (pc' := 617) Y92 hx (hb hby at_616) rfl rfl ?_
  refine o_lload (pc' := 619) Y92 hx (hb hby at_617) rfl rfl ?_
  refine o_lload (pc' := 621) Y92 hx (hb hby at_619) rfl rfl ?_
  refine o_lload (pc' := 623) Y92 hx (hb hby at_621) rfl rfl ?_
  refine o_callP (W := 3) (pc' := 626) (argsL := [(.int (30 : Int32)), (.int (p1 &&& (15 : Int32))), (.int (own_rem (p0 &&& (2147483647 : Int32)) (17 : Int32))), (.long q2), (.long q3), (.long q4), (.long q5)]) (rest := [(.int (30 : Int32)), (.ref b32), (.ref b32)]) (st' := [(.int (f1_0 (30 : Int32) (p1 &&& (15 : Int32)) (own_rem (p0 &&& (2147483647 : Int32)) (17 : Int32)) q2 q3 q4 q5)), (.int (30 : Int32)), (.ref b32), (.ref b32)]) Y92 hx hZ e92 hown (hw _ (List.mem_of_getElem? (i := 2) rfl)) (hw _ (List.mem_of_getElem? (i := 3) rfl)) (hw _ (List.mem_of_getElem? (i := 4) rfl)) (hw _ (List.mem_of_getElem? (i := 5) rfl)) (by decide) (rm1 l Z ag hw [] (30 : Int32) (p1 &&& (15 : Int32)) (own_rem (p0 &&& (2147483647 : Int32)) (17 : Int32)) q2 q3 q4 q5 h92) (by decide) (by decide) (by rw [hml]; rfl) pd_2 rfl rfl rfl rfl (hb hby at_623) rfl rfl rfl (by decide) (by decide) rfl fun T93 X93 e93 => ?_
  refine o_bastore (pc' := 627) (vs' := [(own_i2b (f1_0 (0 : Int32) (p1 &&& (15 : Int32)) (own_rem (p0 &&& (2147483647 : Int32)) (17 : Int32)) q2 q3 q4 q5)), (own_i2b (f1_0 (1 : Int32) (p1 &&& (15 : Int32)) (own_rem (p0 &&& (2147483647 : Int32)) (17 : Int32)) q2 q3 q4 q5)), (own_i2b (f1_0 (2 : Int32) (p1 &&& (15 : Int32)) (own_rem (p0 &&& (2147483647 : Int32)) (17 : Int32)) q2 q3 q4 q5)), (own_i2b (f1_0 (3 : Int32) (p1 &&& (15 : Int32)) (own_rem (p0 &&& (2147483647 : Int32)) (17 : Int32)) q2 q3 q4 q5)), (own_i2b (f1_0 (4 : Int32) (p1 &&& (15 : Int32)) (own_rem (p0 &&& (2147483647 : Int32)) (17 : Int32)) q2 q3 q4 q5)), (own_i2b (f1_0 (5 : Int32) (p1 &&& (15 : Int32)) (own_rem (p0 &&& (2147483647 : Int32)) (17 : Int32)) q2 q3 q4 q5)), (own_i2b (f1_0 (6 : Int32) (p1 &&& (15 : Int32)) (own_rem (p0 &&& (2147483647 : Int32)) (17 : Int32)) q2 q3 q4 q5)), (own_i2b (f1_0 (7 : Int32) (p1 &&& (15 : Int32)) (own_rem (p0 &&& (2147483647 : Int32)) (17 : Int32)) q2 q3 q4 q5)), (own_i2b (f1_0 (8 : Int32) (p1 &&& (15 : Int32)) (own_rem (p0 &&& (2147483647 : Int32)) (17 : Int32)) q2 q3 q4 q5)), (own_i2b (f1_0 (9 : Int32) (p1 &&& (15 : Int32)) (own_rem (p0 &&& (2147483647 : Int32)) (17 : Int32)) q2 q3 q4 q5)), (own_i2b (f1_0 (10 : Int32) (p1 &&& (15 : Int32)) (own_rem (p0 &&& (2147483647 : Int32)) (17 : Int32)) q2 q3 q4 q5)), (own_i2b (f1_0 (11 : Int32) (p1 &&& (15 : Int32)) (own_rem (p0 &&& (2147483647 : Int32)) (17 : Int32)) q2 q3 q4 q5)), (own_i2b (f1_0 (12 : Int32) (p1 &&& (15 : Int32)) (own_rem (p0 &&& (2147483647 : Int32)) (17 : Int32)) q2 q3 q4 q5)), (own_i2b (f1_0 (13 : Int32) (p1 &&& (15 : Int32)) (own_rem (p0 &&& (2147483647 : Int32)) (17 : Int32)) q2 q3 q4 q5)), (own_i2b (f1_0 (14 : Int32) (p1 &&& (15 : Int32)) (own_rem (p0 &&& (2147483647 : Int32)) (17 : Int32)) q2 q3 q4 q5)), (own_i2b (f1_0 (15 : Int32) (p1 &&& (15 : Int32)) (own_rem (p0 &&& (2147483647 : Int32)) (17 : Int32)) q2 q3 q4 q5)), (own_i2b (f1_0 (16 : Int32) (p1 &&& (15 : Int32)) (own_rem (p0 &&& (2147483647 : Int32)) (17 : Int32)) q2 q3 q4 q5)), (own_i2b (f1_0 (17 : Int32) (p1 &&& (15 : Int32)) (own_rem (p0 &&& (2147483647 : Int32)) (17 : Int32)) q2 q3 q4 q5)), (own_i2b (f1_0 (18 : Int32) (p1 &&& (15 : Int32)) (own_rem (p0 &&& (2147483647 : Int32)) (17 : Int32)) q2 q3 q4 q5)), (own_i2b (f1_0 (19 : Int32) (p1 &&& (15 : Int32)) (own_rem (p0 &&& (2147483647 : Int32)) (17 : Int32)) q2 q3 q4 q5)), (own_i2b (f1_0 (20 : Int32) (p1 &&& (15 : Int32)) (own_rem (p0 &&& (2147483647 : Int32)) (17 : Int32)) q2 q3 q4 q5)), (own_i2b (f1_0 (21 : Int32) (p1 &&& (15 : Int32)) (own_rem (p0 &&& (2147483647 : Int32)) (17 : Int32)) q2 q3 q4 q5)), (own_i2b (f1_0 (22 : Int32) (p1 &&& (15 : Int32)) (own_rem (p0 &&& (2147483647 : Int32)) (17 : Int32)) q2 q3 q4 q5)), (own_i2b (f1_0 (23 : Int32) (p1 &&& (15 : Int32)) (own_rem (p0 &&& (2147483647 : Int32)) (17 : Int32)) q2 q3 q4 q5)), (own_i2b (f1_0 (24 : Int32) (p1 &&& (15 : Int32)) (own_rem (p0 &&& (2147483647 : Int32)) (17 : Int32)) q2 q3 q4 q5)), (own_i2b (f1_0 (25 : Int32) (p1 &&& (15 : Int32)) (own_rem (p0 &&& (2147483647 : Int32)) (17 : Int32)) q2 q3 q4 q5)), (own_i2b (f1_0 (26 : Int32) (p1 &&& (15 : Int32)) (own_rem (p0 &&& (2147483647 : Int32)) (17 : Int32)) q2 q3 q4 q5)), (own_i2b (f1_0 (27 : Int32) (p1 &&& (15 : Int32)) (own_rem (p0 &&& (2147483647 : Int32)) (17 : Int32)) q2 q3 q4 q5)), (own_i2b (f1_0 (28 : Int32) (p1 &&& (15 : Int32)) (own_rem (p0 &&& (2147483647 : Int32)) (17 : Int32)) q2 q3 q4 q5)), (own_i2b (f1_0 (29 : Int32) (p1 &&& (15 : Int32)) (own_rem (p0 &&& (2147483647 : Int32)) (17 : Int32)) q2 q3 q4 q5)), (own_i2b (f1_0 (30 : Int32) (p1 &&& (15 : Int32)) (own_rem (p0 &&& (2147483647 : Int32)) (17 : Int32)) q2 q3 q4 q5)), (0 : Int32)]) X93 hx hZ e93 A92 ⟨by decide, Nat.le_of_ble_eq_true rfl⟩ (hb hby at_626) rfl rfl fun T94 h94 X94 e94 W94 A94 => ?_
  have Y94 := own_drop X94 g32
  refine o_dup (pc' := 628) Y94 hx (hb hby at_627) rfl rfl ?_
  refine o_bipush (pc' := 630) (x := (31 : Int32)) Y94 hx (hb hby at_628) (by decide) rfl ?_
  refine o_bipush (pc' := 632) (x := (31 : Int32)) Y94 hx (hb hby at_630) (by decide) rfl ?_
  refine o_iload (pc' := 634) Y94 hx (hb hby at_632) rfl rfl ?_
  refine o_iload (pc' := 636) Y94 hx (hb hby at_634) rfl rfl ?_
  refine o_lloadN (pc' := 637) Y94 hx (hb hby at_636) rfl rfl ?_
  refine o_lload (pc' := 639) Y94 hx (hb hby at_637) rfl rfl ?_
  refine o_lload (pc' := 641) Y94 hx (hb hby at_639) rfl rfl ?_
  refine o_lload (pc' := 643) Y94 hx (hb hby at_641) rfl rfl ?_
  refine o_callP (W := 3) (pc' := 646) (argsL := [(.int (31 : Int32)), (.int (p1 &&& (15 : Int32))), (.int (own_rem (p0 &&& (2147483647 : Int32)) (17 : Int32))), (.long q2), (.long q3), (.long q4), (.long q5)]) (rest := [(.int (31 : Int32)), (.ref b32), (.ref b32)]) (st' := [(.int (f1_0 (31 : Int32) (p1 &&& (15 : Int32)) (own_rem (p0 &&& (2147483647 : Int32)) (17 : Int32)) q2 q3 q4 q5)), (.int (31 : Int32)), (.ref b32), (.ref b32)]) Y94 hx hZ e94 hown (hw _ (List.mem_of_getElem? (i := 2) rfl)) (hw _ (List.mem_of_getElem? (i := 3) rfl)) (hw _ (List.mem_of_getElem? (i := 4) rfl)) (hw _ (List.mem_of_getElem? (i := 5) rfl)) (by decide) (rm1 l Z ag hw [] (31 : Int32) (p1 &&& (15 : Int32)) (own_rem (p0 &&& (2147483647 : Int32)) (17 : Int32)) q2 q3 q4 q5 h94) (by decide) (by decide) (by rw [hml]; rfl) pd_2 rfl rfl rfl rfl (hb hby at_643) rfl rfl rfl (by decide) (by decide) rfl fun T95 X95 e95 => ?_
  refine o_bastore (pc' := 647) (vs' := [(own_i2b (f1_0 (0 : Int32) (p1 &&& (15 : Int32)) (own_rem (p0 &&& (2147483647 : Int32)) (17 : Int32)) q2 q3 q4 q5)), (own_i2b (f1_0 (1 : Int32) (p1 &&& (15 : Int32)) (own_rem (p0 &&& (2147483647 : Int32)) (17 : Int32)) q2 q3 q4 q5)), (own_i2b (f1_0 (2 : Int32) (p1 &&& (15 : Int32)) (own_rem (p0 &&& (2147483647 : Int32)) (17 : Int32)) q2 q3 q4 q5)), (own_i2b (f1_0 (3 : Int32) (p1 &&& (15 : Int32)) (own_rem (p0 &&& (2147483647 : Int32)) (17 : Int32)) q2 q3 q4 q5)), (own_i2b (f1_0 (4 : Int32) (p1 &&& (15 : Int32)) (own_rem (p0 &&& (2147483647 : Int32)) (17 : Int32)) q2 q3 q4 q5)), (own_i2b (f1_0 (5 : Int32) (p1 &&& (15 : Int32)) (own_rem (p0 &&& (2147483647 : Int32)) (17 : Int32)) q2 q3 q4 q5)), (own_i2b (f1_0 (6 : Int32) (p1 &&& (15 : Int32)) (own_rem (p0 &&& (2147483647 : Int32)) (17 : Int32)) q2 q3 q4 q5)), (own_i2b (f1_0 (7 : Int32) (p1 &&& (15 : Int32)) (own_rem (p0 &&& (2147483647 : Int32)) (17 : Int32)) q2 q3 q4 q5)), (own_i2b (f1_0 (8 : Int32) (p1 &&& (15 : Int32)) (own_rem (p0 &&& (2147483647 : Int32)) (17 : Int32)) q2 q3 q4 q5)), (own_i2b (f1_0 (9 : Int32) (p1 &&& (15 : Int32)) (own_rem (p0 &&& (2147483647 : Int32)) (17 : Int32)) q2 q3 q4 q5)), (own_i2b (f1_0 (10 : Int32) (p1 &&& (15 : Int32)) (own_rem (p0 &&& (2147483647 : Int32)) (17 : Int32)) q2 q3 q4 q5)), (own_i2b (f1_0 (11 : Int32) (p1 &&& (15 : Int32)) (own_rem (p0 &&& (2147483647 : Int32)) (17 : Int32)) q2 q3 q4 q5)), (own_i2b (f1_0 (12 : Int32) (p1 &&& (15 : Int32)) (own_rem (p0 &&& (2147483647 : Int32)) (17 : Int32)) q2 q3 q4 q5)), (own_i2b (f1_0 (13 : Int32) (p1 &&& (15 : Int32)) (own_rem (p0 &&& (2147483647 : Int32)) (17 : Int32)) q2 q3 q4 q5)), (own_i2b (f1_0 (14 : Int32) (p1 &&& (15 : Int32)) (own_rem (p0 &&& (2147483647 : Int32)) (17 : Int32)) q2 q3 q4 q5)), (own_i2b (f1_0 (15 : Int32) (p1 &&& (15 : Int32)) (own_rem (p0 &&& (2147483647 : Int32)) (17 : Int32)) q2 q3 q4 q5)), (own_i2b (f1_0 (16 : Int32) (p1 &&& (15 : Int32)) (own_rem (p0 &&& (2147483647 : Int32)) (17 : Int32)) q2 q3 q4 q5)), (own_i2b (f1_0 (17 : Int32) (p1 &&& (15 : Int32)) (own_rem (p0 &&& (2147483647 : Int32)) (17 : Int32)) q2 q3 q4 q5)), (own_i2b (f1_0 (18 : Int32) (p1 &&& (15 : Int32)) (own_rem (p0 &&& (2147483647 : Int32)) (17 : Int32)) q2 q3 q4 q5)), (own_i2b (f1_0 (19 : Int32) (p1 &&& (15 : Int32)) (own_rem (p0 &&& (2147483647 : Int32)) (17 : Int32)) q2 q3 q4 q5)), (own_i2b (f1_0 (20 : Int32) (p1 &&& (15 : Int32)) (own_rem (p0 &&& (2147483647 : Int32)) (17 : Int32)) q2 q3 q4 q5)), (own_i2b (f1_0 (21 : Int32) (p1 &&& (15 : Int32)) (own_rem (p0 &&& (2147483647 : Int32)) (17 : Int32)) q2 q3 q4 q5)), (own_i2b (f1_0 (22 : Int32) (p1 &&& (15 : Int32)) (own_rem (p0 &&& (2147483647 : Int32)) (17 : Int32)) q2 q3 q4 q5)), (own_i2b (f1_0 (23 : Int32) (p1 &&& (15 : Int32)) (own_rem (p0 &&& (2147483647 : Int32)) (17 : Int32)) q2 q3 q4 q5)), (own_i2b (f1_0 (24 : Int32) (p1 &&& (15 : Int32)) (own_rem (p0 &&& (2147483647 : Int32)) (17 : Int32)) q2 q3 q4 q5)), (own_i2b (f1_0 (25 : Int32) (p1 &&& (15 : Int32)) (own_rem (p0 &&& (2147483647 : Int32)) (17 : Int32)) q2 q3 q4 q5)), (own_i2b (f1_0 (26 : Int32) (p1 &&& (15 : Int32)) (own_rem (p0 &&& (2147483647 : Int32)) (17 : Int32)) q2 q3 q4 q5)), (own_i2b (f1_0 (27 : Int32) (p1 &&& (15 : Int32)) (own_rem (p0 &&& (2147483647 : Int32)) (17 : Int32)) q2 q3 q4 q5)), (own_i2b (f1_0 (28 : Int32) (p1 &&& (15 : Int32)) (own_rem (p0 &&& (2147483647 : Int32)) (17 : Int32)) q2 q3 q4 q5)), (own_i2b (f1_0 (29 : Int32) (p1 &&& (15 : Int32)) (own_rem (p0 &&& (2147483647 : Int32)) (17 : Int32)) q2 q3 q4 q5)), (own_i2b (f1_0 (30 : Int32) (p1 &&& (15 : Int32)) (own_rem (p0 &&& (2147483647 : Int32)) (17 : Int32)) q2 q3 q4 q5)), (own_i2b (f1_0 (31 : Int32) (p1 &&& (15 : Int32)) (own_rem (p0 &&& (2147483647 : Int32)) (17 : Int32)) q2 q3 q4 q5))]) X95 hx hZ e95 A94 ⟨by decide, Nat.le_of_ble_eq_true rfl⟩ (hb hby at_646) rfl rfl fun T96 h96 X96 e96 W96 A96 => ?_
  have Y96 := own_drop X96 g32
  refine o_astore (pc' := 649) (l' := #[.val (.int p0), .val (.int p1), .val (.long q2), .second, .val (.long q3), .second, .val (.long q4), .second, .val (.long q5), .second, .val (.int (own_rem (p0 &&& (2147483647 : Int32)) (17 : Int32))), .val (.int (p1 &&& (15 : Int32))), .val (.ref b32), .unset, .unset, .unset]) Y96 hx (hb hby at_647) rfl rfl rfl ?_
  refine o_bipush (pc' := 651) (x := (17 : Int32)) Y96 hx (hb hby at_649) (by decide) rfl ?_
  refine o_newJ (pc' := 653) (cap := 17) (vs := [(0 : Int64), (0 : Int64), (0 : Int64), (0 : Int64), (0 : Int64), (0 : Int64), (0 : Int64), (0 : Int64), (0 : Int64), (0 : Int64), (0 : Int64), (0 : Int64), (0 : Int64), (0 : Int64), (0 : Int64), (0 : Int64), (0 : Int64)]) Y96 hx hZ e96 (hw _ (List.mem_of_getElem? (i := 6) rfl)) (hb hby at_651) rfl (by decide) (by decide) (by decide) (by decide) (by decide) rfl fun T97 h97 b97 X97 e97 q97 E97 A97 => ?_
  have g97 : s.heap.size ≤ b97 := q97 ▸ own_sz Y96 e96
  have ne97_b32 : b32 ≠ b97 := Nat.ne_of_lt (q97 ▸ A96.lt)
  have B97_b32 := A96.ext E97
  refine o_dup (pc' := 654) X97 hx (hb hby at_653) rfl rfl ?_
  refine o_iconst (pc' := 655) (x := (0 : Int32)) X97 hx (hb hby at_654) (by decide) rfl ?_
  refine o_ldcL (pc' := 658) X97 hx hZ hown (hw _ (List.mem_of_getElem? (i := 7) rfl)) (hb hby at_655) rfl ?_
  refine o_lastore (pc' := 659) (vs' := [(8246050544436514353 : Int64), (0 : Int64), (0 : Int64), (0 : Int64), (0 : Int64), (0 : Int64), (0 : Int64), (0 : Int64), (0 : Int64), (0 : Int64), (0 : Int64), (0 : Int64), (0 : Int64), (0 : Int64), (0 : Int64), (0 : Int64), (0 : Int64)]) X97 hx hZ e97 A97 ⟨by decide, Nat.le_of_ble_eq_true rfl⟩ (hb hby at_658) rfl rfl fun T98 h98 X98 e98 W98 A98 => ?_
  have B98_b32 := B97_b32.other W98 ne97_b32
  have Y98 := own_drop X98 g97
  refine o_dup (pc' := 660) Y98 hx (hb hby at_659) rfl rfl ?_
  refine o_iconst (pc' := 661) (x := (1 : Int32)) Y98 hx (hb hby at_660) (by decide) rfl ?_
  refine o_ldcL (pc' := 664) Y98 hx hZ hown (hw _ (List.mem_of_getElem? (i := 8) rfl)) (hb hby at_661) rfl ?_
  refine o_lastore (pc' := 665) (vs' := [(8246050544436514353 : Int64), (8428550223375919101 : Int64), (0 : Int64), (0 : Int64), (0 : Int64), (0 : Int64), (0 : Int64), (0 : Int64), (0 : Int64), (0 : Int64), (0 : Int64), (0 : Int64), (0 : Int64), (0 : Int64), (0 : Int64), (0 : Int64), (0 : Int64)]) Y98 hx hZ e98 A98 ⟨by decide, Nat.le_of_ble_eq_true rfl⟩ (hb hby at_664) rfl rfl fun T99 h99 X99 e99 W99 A99 => ?_
  have B99_b32 := B98_b32.other W99 ne97_b32
  have Y99 := own_drop X99 g97
  refine o_dup (pc' := 666) Y99 hx (hb hby at_665) rfl rfl ?_
  refine o_iconst (pc' := 667) (x := (2 : Int32)) Y99 hx (hb hby at_666) (by decide) rfl ?_
  refine o_ldcL (pc' := 670) Y99 hx hZ hown (hw _ (List.mem_of_getElem? (i := 9) rfl)) (hb hby at_667) rfl ?_
  refine o_lastore (pc' := 671) (vs' := [(8246050544436514353 : Int64), (8428550223375919101 : Int64), (967288799772626778 : Int64), (0 : Int64), (0 : Int64), (0 : Int64), (0 : Int64), (0 : Int64), (0 : Int64), (0 : Int64), (0 : Int64), (0 : Int64), (0 : Int64), (0 : Int64), (0 : Int64), (0 : Int64), (0 : Int64)]) Y99 hx hZ e99 A99 ⟨by decide, Nat.le_of_ble_eq_true rfl⟩ (hb hby at_670) rfl rfl fun T100 h100 X100 e100 W100 A100 => ?_
  have B100_b32 := B99_b32.other W100 ne97_b32
  have Y100 := own_drop X100 g97
  refine o_dup (pc' := 672) Y100 hx (hb hby at_671) rfl rfl ?_
  refine o_iconst (pc' := 673) (x := (3 : Int32)) Y100 hx (hb hby at_672) (by decide) rfl ?_
  refine o_ldcL (pc' := 676) Y100 hx hZ hown (hw _ (List.mem_of_getElem? (i := 10) rfl)) (hb hby at_673) rfl ?_
  refine o_lastore (pc' := 677) (vs' := [(8246050544436514353 : Int64), (8428550223375919101 : Int64), (967288799772626778 : Int64), (-8833979346009227731 : Int64), (0 : Int64), (0 : Int64), (0 : Int64), (0 : Int64), (0 : Int64), (0 : Int64), (0 : Int64), (0 : Int64), (0 : Int64), (0 : Int64), (0 : Int64), (0 : Int64), (0 : Int64)]) Y100 hx hZ e100 A100 ⟨by decide, Nat.le_of_ble_eq_true rfl⟩ (hb hby at_676) rfl rfl fun T101 h101 X101 e101 W101 A101 => ?_
  have B101_b32 := B100_b32.other W101 ne97_b32
  have Y101 := own_drop X101 g97
  refine o_dup (pc' := 678) Y101 hx (hb hby at_677) rfl rfl ?_
  refine o_iconst (pc' := 679) (x := (4 : Int32)) Y101 hx (hb hby at_678) (by decide) rfl ?_
  refine o_ldcL (pc' := 682) Y101 hx hZ hown (hw _ (List.mem_of_getElem? (i := 11) rfl)) (hb hby at_679) rfl ?_
  refine o_lastore (pc' := 683) (vs' := [(8246050544436514353 : Int64), (8428550223375919101 : Int64), (967288799772626778 : Int64), (-8833979346009227731 : Int64), (-3519680893311416393 : Int64), (0 : Int64), (0 : Int64), (0 : Int64), (0 : Int64), (0 : Int64), (0 : Int64), (0 : Int64), (0 : Int64), (0 : Int64), (0 : Int64), (0 : Int64), (0 : Int64)]) Y101 hx hZ e101 A101 ⟨by decide, Nat.le_of_ble_eq_true rfl⟩ (hb hby at_682) rfl rfl fun T102 h102 X102 e102 W102 A102 => ?_
  have B102_b32 := B101_b32.other W102 ne97_b32
  have Y102 := own_drop X102 g97
  refine o_dup (pc' := 684) Y102 hx (hb hby at_683) rfl rfl ?_
  refine o_iconst (pc' := 685) (x := (5 : Int32)) Y102 hx (hb hby at_684) (by decide) rfl ?_
  refine o_ldcL (pc' := 688) Y102 hx hZ hown (hw _ (List.mem_of_getElem? (i := 12) rfl)) (hb hby at_685) rfl ?_
  refine o_lastore (pc' := 689) (vs' := [(8246050544436514353 : Int64), (8428550223375919101 : Int64), (967288799772626778 : Int64), (-8833979346009227731 : Int64), (-3519680893311416393 : Int64), (1762690195596617357 : Int64), (0 : Int64), (0 : Int64), (0 : Int64), (0 : Int64), (0 : Int64), (0 : Int64), (0 : Int64), (0 : Int64), (0 : Int64), (0 : Int64), (0 : Int64)]) Y102 hx hZ e102 A102 ⟨by decide, Nat.le_of_ble_eq_true rfl⟩ (hb hby at_688) rfl rfl fun T103 h103 X103 e103 W103 A103 => ?_
  have B103_b32 := B102_b32.other W103 ne97_b32
  have Y103 := own_drop X103 g97
  refine o_dup (pc' := 690) Y103 hx (hb hby at_689) rfl rfl ?_
  refine o_bipush (pc' := 692) (x := (6 : Int32)) Y103 hx (hb hby at_690) (by decide) rfl ?_
  refine o_ldcL (pc' := 695) Y103 hx hZ hown (hw _ (List.mem_of_getElem? (i := 13) rfl)) (hb hby at_692) rfl ?_
  refine o_lastore (pc' := 696) (vs' := [(8246050544436514353 : Int64), (8428550223375919101 : Int64), (967288799772626778 : Int64), (-8833979346009227731 : Int64), (-3519680893311416393 : Int64), (1762690195596617357 : Int64), (-3762398573937892402 : Int64), (0 : Int64), (0 : Int64), (0 : Int64), (0 : Int64), (0 : Int64), (0 : Int64), (0 : Int64), (0 : Int64), (0 : Int64), (0 : Int64)]) Y103 hx hZ e103 A103 ⟨by decide, Nat.le_of_ble_eq_true rfl⟩ (hb hby at_695) rfl rfl fun T104 h104 X104 e104 W104 A104 => ?_
  have B104_b32 := B103_b32.other W104 ne97_b32
  have Y104 := own_drop X104 g97
  refine o_dup (pc' := 697) Y104 hx (hb hby at_696) rfl rfl ?_
  refine o_bipush (pc' := 699) (x := (7 : Int32)) Y104 hx (hb hby at_697) (by decide) rfl ?_
  refine o_ldcL (pc' := 702) Y104 hx hZ hown (hw _ (List.mem_of_getElem? (i := 14) rfl)) (hb hby at_699) rfl ?_
  refine o_lastore (pc' := 703) (vs' := [(8246050544436514353 : Int64), (8428550223375919101 : Int64), (967288799772626778 : Int64), (-8833979346009227731 : Int64), (-3519680893311416393 : Int64), (1762690195596617357 : Int64), (-3762398573937892402 : Int64), (-6124331488671313609 : Int64), (0 : Int64), (0 : Int64), (0 : Int64), (0 : Int64), (0 : Int64), (0 : Int64), (0 : Int64), (0 : Int64), (0 : Int64)]) Y104 hx hZ e104 A104 ⟨by decide, Nat.le_of_ble_eq_true rfl⟩ (hb hby at_702) rfl rfl fun T105 h105 X105 e105 W105 A105 => ?_
  have B105_b32 := B104_b32.other W105 ne97_b32
  have Y105 := own_drop X105 g97
  refine o_dup (pc' := 704) Y105 hx (hb hby at_703) rfl rfl ?_
  refine o_bipush (pc' := 706) (x := (8 : Int32)) Y105 hx (hb hby at_704) (by decide) rfl ?_
  refine o_ldcL (pc' := 709) Y105 hx hZ hown (hw _ (List.mem_of_getElem? (i := 15) rfl)) (hb hby at_706) rfl ?_
  refine o_lastore (pc' := 710) (vs' := [(8246050544436514353 : Int64), (8428550223375919101 : Int64), (967288799772626778 : Int64), (-8833979346009227731 : Int64), (-3519680893311416393 : Int64), (1762690195596617357 : Int64), (-3762398573937892402 : Int64), (-6124331488671313609 : Int64), (-7785046478206851998 : Int64), (0 : Int64), (0 : Int64), (0 : Int64), (0 : Int64), (0 : Int64), (0 : Int64), (0 : Int64), (0 : Int64)]) Y105 hx hZ e105 A105 ⟨by decide, Nat.le_of_ble_eq_true rfl⟩ (hb hby at_709) rfl rfl fun T106 h106 X106 e106 W106 A106 => ?_
  have B106_b32 := B105_b32.other W106 ne97_b32
  have Y106 := own_drop X106 g97
  refine o_dup (pc' := 711) Y106 hx (hb hby at_710) rfl rfl ?_
  refine o_bipush (pc' := 713) (x := (9 : Int32)) Y106 hx (hb hby at_711) (by decide) rfl ?_
  refine o_ldcL (pc' := 716) Y106 hx hZ hown (hw _ (List.mem_of_getElem? (i := 16) rfl)) (hb hby at_713) rfl ?_
  refine o_lastore (pc' := 717) (vs' := [(8246050544436514353 : Int64), (8428550223375919101 : Int64), (967288799772626778 : Int64), (-8833979346009227731 : Int64), (-3519680893311416393 : Int64), (1762690195596617357 : Int64), (-3762398573937892402 : Int64), (-6124331488671313609 : Int64), (-7785046478206851998 : Int64), (-7061500321231936336 : Int64), (0 : Int64), (0 : Int64), (0 : Int64), (0 : Int64), (0 : Int64), (0 : Int64), (0 : Int64)]) Y106 hx hZ e106 A106 ⟨by decide, Nat.le_of_ble_eq_true rfl⟩ (hb hby at_716) rfl rfl fun T107 h107 X107 e107 W107 A107 => ?_
  have B107_b32 := B106_b32.other W107 ne97_b32
  have Y107 := own_drop X107 g97
  refine o_dup (pc' := 718) Y107 hx (hb hby at_717) rfl rfl ?_
  refine o_bipush (pc' := 720) (x := (10 : Int32)) Y107 hx (hb hby at_718) (by decide) rfl ?_
  refine o_ldcL (pc' := 723) Y107 hx hZ hown (hw _ (List.mem_of_getElem? (i := 17) rfl)) (hb hby at_720) rfl ?_
  refine o_lastore (pc' := 724) (vs' := [(8246050544436514353 : Int64), (8428550223375919101 : Int64), (967288799772626778 : Int64), (-8833979346009227731 : Int64), (-3519680893311416393 : Int64), (1762690195596617357 : Int64), (-3762398573937892402 : Int64), (-6124331488671313609 : Int64), (-7785046478206851998 : Int64), (-7061500321231936336 : Int64), (8817410102741809651 : Int64), (0 : Int64), (0 : Int64), (0 : Int64), (0 : Int64), (0 : Int64), (0 : Int64)]) Y107 hx hZ e107 A107 ⟨by decide, Nat.le_of_ble_eq_true rfl⟩ (hb hby at_723) rfl rfl fun T108 h108 X108 e108 W108 A108 => ?_
  have B108_b32 := B107_b32.other W108 ne97_b32
  have Y108 := own_drop X108 g97
  refine o_dup (pc' := 725) Y108 hx (hb hby at_724) rfl rfl ?_
  refine o_bipush (pc' := 727) (x := (11 : Int32)) Y108 hx (hb hby at_725) (by decide) rfl ?_
  refine o_ldcL (pc' := 730) Y108 hx hZ hown (hw _ (List.mem_of_getElem? (i := 18) rfl)) (hb hby at_727) rfl ?_
  refine o_lastore (pc' := 731) (vs' := [(8246050544436514353 : Int64), (8428550223375919101 : Int64), (967288799772626778 : Int64), (-8833979346009227731 : Int64), (-3519680893311416393 : Int64), (1762690195596617357 : Int64), (-3762398573937892402 : Int64), (-6124331488671313609 : Int64), (-7785046478206851998 : Int64), (-7061500321231936336 : Int64), (8817410102741809651 : Int64), (-814255129352229465 : Int64), (0 : Int64), (0 : Int64), (0 : Int64), (0 : Int64), (0 : Int64)]) Y108 hx hZ e108 A108 ⟨by decide, Nat.le_of_ble_eq_true rfl⟩ (hb hby at_730) rfl rfl fun T109 h109 X109 e109 W109 A109 => ?_
  have B109_b32 := B108_b32.other W109 ne97_b32
  have Y109 := own_drop X109 g97
  refine o_dup (pc' := 732) Y109 hx (hb hby at_731) rfl rfl ?_
  refine o_bipush (pc' := 734) (x := (12 : Int32)) Y109 hx (hb hby at_732) (by decide) rfl ?_
  refine o_ldcL (pc' := 737) Y109 hx hZ hown (hw _ (List.mem_of_getElem? (i := 19) rfl)) (hb hby at_734) rfl ?_
  refine o_lastore (pc' := 738) (vs' := [(8246050544436514353 : Int64), (8428550223375919101 : Int64), (967288799772626778 : Int64), (-8833979346009227731 : Int64), (-3519680893311416393 : Int64), (1762690195596617357 : Int64), (-3762398573937892402 : Int64), (-6124331488671313609 : Int64), (-7785046478206851998 : Int64), (-7061500321231936336 : Int64), (8817410102741809651 : Int64), (-814255129352229465 : Int64), (8439340791604635131 : Int64), (0 : Int64), (0 : Int64), (0 : Int64), (0 : Int64)]) Y109 hx hZ e109 A109 ⟨by decide, Nat.le_of_ble_eq_true rfl⟩ (hb hby at_737) rfl rfl fun T110 h110 X110 e110 W110 A110 => ?_
  have B110_b32 := B109_b32.other W110 ne97_b32
  have Y110 := own_drop X110 g97
  refine o_dup (pc' := 739) Y110 hx (hb hby at_738) rfl rfl ?_
  refine o_bipush (pc' := 741) (x := (13 : Int32)) Y110 hx (hb hby at_739) (by decide) rfl ?_
  refine o_ldcL (pc' := 744) Y110 hx hZ hown (hw _ (List.mem_of_getElem? (i := 20) rfl)) (hb hby at_741) rfl ?_
  refine o_lastore (pc' := 745) (vs' := [(8246050544436514353 : Int64), (8428550223375919101 : Int64), (967288799772626778 : Int64), (-8833979346009227731 : Int64), (-3519680893311416393 : Int64), (1762690195596617357 : Int64), (-3762398573937892402 : Int64), (-6124331488671313609 : Int64), (-7785046478206851998 : Int64), (-7061500321231936336 : Int64), (8817410102741809651 : Int64), (-814255129352229465 : Int64), (8439340791604635131 : Int64), (1507111754042457488 : Int64), (0 : Int64), (0 : Int64), (0 : Int64)]) Y110 hx hZ e110 A110 ⟨by decide, Nat.le_of_ble_eq_true rfl⟩ (hb hby at_744) rfl rfl fun T111 h111 X111 e111 W111 A111 => ?_
  have B111_b32 := B110_b32.other W111 ne97_b32
  have Y111 := own_drop X111 g97
  refine o_dup (pc' := 746) Y111 hx (hb hby at_745) rfl rfl ?_
  refine o_bipush (pc' := 748) (x := (14 : Int32)) Y111 hx (hb hby at_746) (by decide) rfl ?_
  refine o_ldcL (pc' := 751) Y111 hx hZ hown (hw _ (List.mem_of_getElem? (i := 21) rfl)) (hb hby at_748) rfl ?_
  refine o_lastore (pc' := 752) (vs' := [(8246050544436514353 : Int64), (8428550223375919101 : Int64), (967288799772626778 : Int64), (-8833979346009227731 : Int64), (-3519680893311416393 : Int64), (1762690195596617357 : Int64), (-3762398573937892402 : Int64), (-6124331488671313609 : Int64), (-7785046478206851998 : Int64), (-7061500321231936336 : Int64), (8817410102741809651 : Int64), (-814255129352229465 : Int64), (8439340791604635131 : Int64), (1507111754042457488 : Int64), (-638443999941954834 : Int64), (0 : Int64), (0 : Int64)]) Y111 hx hZ e111 A111 ⟨by decide, Nat.le_of_ble_eq_true rfl⟩ (hb hby at_751) rfl rfl fun T112 h112 X112 e112 W112 A112 => ?_
  have B112_b32 := B111_b32.other W112 ne97_b32
  have Y112 := own_drop X112 g97
  refine o_dup (pc' := 753) Y112 hx (hb hby at_752) rfl rfl ?_
  refine o_bipush (pc' := 755) (x := (15 : Int32)) Y112 hx (hb hby at_753) (by decide) rfl ?_
  refine o_ldcL (pc' := 758) Y112 hx hZ hown (hw _ (List.mem_of_getElem? (i := 22) rfl)) (hb hby at_755) rfl ?_
  refine o_lastore (pc' := 759) (vs' := [(8246050544436514353 : Int64), (8428550223375919101 : Int64), (967288799772626778 : Int64), (-8833979346009227731 : Int64), (-3519680893311416393 : Int64), (1762690195596617357 : Int64), (-3762398573937892402 : Int64), (-6124331488671313609 : Int64), (-7785046478206851998 : Int64), (-7061500321231936336 : Int64), (8817410102741809651 : Int64), (-814255129352229465 : Int64), (8439340791604635131 : Int64), (1507111754042457488 : Int64), (-638443999941954834 : Int64), (-6833708440360172059 : Int64), (0 : Int64)]) Y112 hx hZ e112 A112 ⟨by decide, Nat.le_of_ble_eq_true rfl⟩ (hb hby at_758) rfl rfl fun T113 h113 X113 e113 W113 A113 => ?_
  have B113_b32 := B112_b32.other W113 ne97_b32
  have Y113 := own_drop X113 g97
  refine o_dup (pc' := 760) Y113 hx (hb hby at_759) rfl rfl ?_
  refine o_bipush (pc' := 762) (x := (16 : Int32)) Y113 hx (hb hby at_760) (by decide) rfl ?_
  refine o_ldcL (pc' := 765) Y113 hx hZ hown (hw _ (List.mem_of_getElem? (i := 23) rfl)) (hb hby at_762) rfl ?_
  refine o_lastore (pc' := 766) (vs' := [(8246050544436514353 : Int64), (8428550223375919101 : Int64), (967288799772626778 : Int64), (-8833979346009227731 : Int64), (-3519680893311416393 : Int64), (1762690195596617357 : Int64), (-3762398573937892402 : Int64), (-6124331488671313609 : Int64), (-7785046478206851998 : Int64), (-7061500321231936336 : Int64), (8817410102741809651 : Int64), (-814255129352229465 : Int64), (8439340791604635131 : Int64), (1507111754042457488 : Int64), (-638443999941954834 : Int64), (-6833708440360172059 : Int64), (4551675220716592091 : Int64)]) Y113 hx hZ e113 A113 ⟨by decide, Nat.le_of_ble_eq_true rfl⟩ (hb hby at_765) rfl rfl fun T114 h114 X114 e114 W114 A114 => ?_
  have B114_b32 := B113_b32.other W114 ne97_b32
  have Y114 := own_drop X114 g97
  refine o_astore (pc' := 768) (l' := #[.val (.int p0), .val (.int p1), .val (.long q2), .second, .val (.long q3), .second, .val (.long q4), .second, .val (.long q5), .second, .val (.int (own_rem (p0 &&& (2147483647 : Int32)) (17 : Int32))), .val (.int (p1 &&& (15 : Int32))), .val (.ref b32), .val (.ref b97), .unset, .unset]) Y114 hx (hb hby at_766) rfl rfl rfl ?_
  refine o_ldcL (pc' := 771) Y114 hx hZ hown (hw _ (List.mem_of_getElem? (i := 24) rfl)) (hb hby at_768) rfl ?_
  refine o_ldcL (pc' := 774) Y114 hx hZ hown (hw _ (List.mem_of_getElem? (i := 25) rfl)) (hb hby at_771) rfl ?_
  refine o_aload (pc' := 776) Y114 hx (hb hby at_774) rfl rfl rfl ?_
  refine o_iload (pc' := 778) Y114 hx (hb hby at_776) rfl rfl ?_
  refine o_iload (pc' := 780) Y114 hx (hb hby at_778) rfl rfl ?_
  refine o_iload (pc' := 782) Y114 hx (hb hby at_780) rfl rfl ?_
  refine o_iadd (pc' := 783)  Y114 hx (hb hby at_782) rfl rfl ?_
  refine o_callP (W := 0) (pc' := 786) (argsL := [(.long (506097522914230528 : Int64)), (.long (1084818905618843912 : Int64)), (.ref b32), (.int (p1 &&& (15 : Int32))), (.int ((p1 &&& (15 : Int32)) + (own_rem (p0 &&& (2147483647 : Int32)) (17 : Int32))))]) (rest := []) (st' := [(.long (f2_0 (506097522914230528 : Int64) (1084818905618843912 : Int64) [(own_i2b (f1_0 (0 : Int32) (p1 &&& (15 : Int32)) (own_rem (p0 &&& (2147483647 : Int32)) (17 : Int32)) q2 q3 q4 q5)), (own_i2b (f1_0 (1 : Int32) (p1 &&& (15 : Int32)) (own_rem (p0 &&& (2147483647 : Int32)) (17 : Int32)) q2 q3 q4 q5)), (own_i2b (f1_0 (2 : Int32) (p1 &&& (15 : Int32)) (own_rem (p0 &&& (2147483647 : Int32)) (17 : Int32)) q2 q3 q4 q5)), (own_i2b (f1_0 (3 : Int32) (p1 &&& (15 : Int32)) (own_rem (p0 &&& (2147483647 : Int32)) (17 : Int32)) q2 q3 q4 q5)), (own_i2b (f1_0 (4 : Int32) (p1 &&& (15 : Int32)) (own_rem (p0 &&& (2147483647 : Int32)) (17 : Int32)) q2 q3 q4 q5)), (own_i2b (f1_0 (5 : Int32) (p1 &&& (15 : Int32)) (own_rem (p0 &&& (2147483647 : Int32)) (17 : Int32)) q2 q3 q4 q5)), (own_i2b (f1_0 (6 : Int32) (p1 &&& (15 : Int32)) (own_rem (p0 &&& (2147483647 : Int32)) (17 : Int32)) q2 q3 q4 q5)), (own_i2b (f1_0 (7 : Int32) (p1 &&& (15 : Int32)) (own_rem (p0 &&& (2147483647 : Int32)) (17 : Int32)) q2 q3 q4 q5)), (own_i2b (f1_0 (8 : Int32) (p1 &&& (15 : Int32)) (own_rem (p0 &&& (2147483647 : Int32)) (17 : Int32)) q2 q3 q4 q5)), (own_i2b (f1_0 (9 : Int32) (p1 &&& (15 : Int32)) (own_rem (p0 &&& (2147483647 : Int32)) (17 : Int32)) q2 q3 q4 q5)), (own_i2b (f1_0 (10 : Int32) (p1 &&& (15 : Int32)) (own_rem (p0 &&& (2147483647 : Int32)) (17 : Int32)) q2 q3 q4 q5)), (own_i2b (f1_0 (11 : Int32) (p1 &&& (15 : Int32)) (own_rem (p0 &&& (2147483647 : Int32)) (17 : Int32)) q2 q3 q4 q5)), (own_i2b (f1_0 (12 : Int32) (p1 &&& (15 : Int32)) (own_rem (p0 &&& (2147483647 : Int32)) (17 : Int32)) q2 q3 q4 q5)), (own_i2b (f1_0 (13 : Int32) (p1 &&& (15 : Int32)) (own_rem (p0 &&& (2147483647 : Int32)) (17 : Int32)) q2 q3 q4 q5)), (own_i2b (f1_0 (14 : Int32) (p1 &&& (15 : Int32)) (own_rem (p0 &&& (2147483647 : Int32)) (17 : Int32)) q2 q3 q4 q5)), (own_i2b (f1_0 (15 : Int32) (p1 &&& (15 : Int32)) (own_rem (p0 &&& (2147483647 : Int32)) (17 : Int32)) q2 q3 q4 q5)), (own_i2b (f1_0 (16 : Int32) (p1 &&& (15 : Int32)) (own_rem (p0 &&& (2147483647 : Int32)) (17 : Int32)) q2 q3 q4 q5)), (own_i2b (f1_0 (17 : Int32) (p1 &&& (15 : Int32)) (own_rem (p0 &&& (2147483647 : Int32)) (17 : Int32)) q2 q3 q4 q5)), (own_i2b (f1_0 (18 : Int32) (p1 &&& (15 : Int32)) (own_rem (p0 &&& (2147483647 : Int32)) (17 : Int32)) q2 q3 q4 q5)), (own_i2b (f1_0 (19 : Int32) (p1 &&& (15 : Int32)) (own_rem (p0 &&& (2147483647 : Int32)) (17 : Int32)) q2 q3 q4 q5)), (own_i2b (f1_0 (20 : Int32) (p1 &&& (15 : Int32)) (own_rem (p0 &&& (2147483647 : Int32)) (17 : Int32)) q2 q3 q4 q5)), (own_i2b (f1_0 (21 : Int32) (p1 &&& (15 : Int32)) (own_rem (p0 &&& (2147483647 : Int32)) (17 : Int32)) q2 q3 q4 q5)), (own_i2b (f1_0 (22 : Int32) (p1 &&& (15 : Int32)) (own_rem (p0 &&& (2147483647 : Int32)) (17 : Int32)) q2 q3 q4 q5)), (own_i2b (f1_0 (23 : Int32) (p1 &&& (15 : Int32)) (own_rem (p0 &&& (2147483647 : Int32)) (17 : Int32)) q2 q3 q4 q5)), (own_i2b (f1_0 (24 : Int32) (p1 &&& (15 : Int32)) (own_rem (p0 &&& (2147483647 : Int32)) (17 : Int32)) q2 q3 q4 q5)), (own_i2b (f1_0 (25 : Int32) (p1 &&& (15 : Int32)) (own_rem (p0 &&& (2147483647 : Int32)) (17 : Int32)) q2 q3 q4 q5)), (own_i2b (f1_0 (26 : Int32) (p1 &&& (15 : Int32)) (own_rem (p0 &&& (2147483647 : Int32)) (17 : Int32)) q2 q3 q4 q5)), (own_i2b (f1_0 (27 : Int32) (p1 &&& (15 : Int32)) (own_rem (p0 &&& (2147483647 : Int32)) (17 : Int32)) q2 q3 q4 q5)), (own_i2b (f1_0 (28 : Int32) (p1 &&& (15 : Int32)) (own_rem (p0 &&& (2147483647 : Int32)) (17 : Int32)) q2 q3 q4 q5)), (own_i2b (f1_0 (29 : Int32) (p1 &&& (15 : Int32)) (own_rem (p0 &&& (2147483647 : Int32)) (17 : Int32)) q2 q3 q4 q5)), (own_i2b (f1_0 (30 : Int32) (p1 &&& (15 : Int32)) (own_rem (p0 &&& (2147483647 : Int32)) (17 : Int32)) q2 q3 q4 q5)), (own_i2b (f1_0 (31 : Int32) (p1 &&& (15 : Int32)) (own_rem (p0 &&& (2147483647 : Int32)) (17 : Int32)) q2 q3 q4 q5))] (p1 &&& (15 : Int32)) ((p1 &&& (15 : Int32)) + (own_rem (p0 &&& (2147483647 : Int32)) (17 : Int32)))))]) Y114 hx hZ e114 hown (hw _ (List.mem_of_getElem? (i := 26) rfl)) (hw _ (List.mem_of_getElem? (i := 27) rfl)) (hw _ (List.mem_of_getElem? (i := 28) rfl)) (hw _ (List.mem_of_getElem? (i := 29) rfl)) (by decide) (rm2 l Z ag hw [] (506097522914230528 : Int64) (1084818905618843912 : Int64) b32 [(own_i2b (f1_0 (0 : Int32) (p1 &&& (15 : Int32)) (own_rem (p0 &&& (2147483647 : Int32)) (17 : Int32)) q2 q3 q4 q5)), (own_i2b (f1_0 (1 : Int32) (p1 &&& (15 : Int32)) (own_rem (p0 &&& (2147483647 : Int32)) (17 : Int32)) q2 q3 q4 q5)), (own_i2b (f1_0 (2 : Int32) (p1 &&& (15 : Int32)) (own_rem (p0 &&& (2147483647 : Int32)) (17 : Int32)) q2 q3 q4 q5)), (own_i2b (f1_0 (3 : Int32) (p1 &&& (15 : Int32)) (own_rem (p0 &&& (2147483647 : Int32)) (17 : Int32)) q2 q3 q4 q5)), (own_i2b (f1_0 (4 : Int32) (p1 &&& (15 : Int32)) (own_rem (p0 &&& (2147483647 : Int32)) (17 : Int32)) q2 q3 q4 q5)), (own_i2b (f1_0 (5 : Int32) (p1 &&& (15 : Int32)) (own_rem (p0 &&& (2147483647 : Int32)) (17 : Int32)) q2 q3 q4 q5)), (own_i2b (f1_0 (6 : Int32) (p1 &&& (15 : Int32)) (own_rem (p0 &&& (2147483647 : Int32)) (17 : Int32)) q2 q3 q4 q5)), (own_i2b (f1_0 (7 : Int32) (p1 &&& (15 : Int32)) (own_rem (p0 &&& (2147483647 : Int32)) (17 : Int32)) q2 q3 q4 q5)), (own_i2b (f1_0 (8 : Int32) (p1 &&& (15 : Int32)) (own_rem (p0 &&& (2147483647 : Int32)) (17 : Int32)) q2 q3 q4 q5)), (own_i2b (f1_0 (9 : Int32) (p1 &&& (15 : Int32)) (own_rem (p0 &&& (2147483647 : Int32)) (17 : Int32)) q2 q3 q4 q5)), (own_i2b (f1_0 (10 : Int32) (p1 &&& (15 : Int32)) (own_rem (p0 &&& (2147483647 : Int32)) (17 : Int32)) q2 q3 q4 q5)), (own_i2b (f1_0 (11 : Int32) (p1 &&& (15 : Int32)) (own_rem (p0 &&& (2147483647 : Int32)) (17 : Int32)) q2 q3 q4 q5)), (own_i2b (f1_0 (12 : Int32) (p1 &&& (15 : Int32)) (own_rem (p0 &&& (2147483647 : Int32)) (17 : Int32)) q2 q3 q4 q5)), (own_i2b (f1_0 (13 : Int32) (p1 &&& (15 : Int32)) (own_rem (p0 &&& (2147483647 : Int32)) (17 : Int32)) q2 q3 q4 q5)), (own_i2b (f1_0 (14 : Int32) (p1 &&& (15 : Int32)) (own_rem (p0 &&& (2147483647 : Int32)) (17 : Int32)) q2 q3 q4 q5)), (own_i2b (f1_0 (15 : Int32) (p1 &&& (15 : Int32)) (own_rem (p0 &&& (2147483647 : Int32)) (17 : Int32)) q2 q3 q4 q5)), (own_i2b (f1_0 (16 : Int32) (p1 &&& (15 : Int32)) (own_rem (p0 &&& (2147483647 : Int32)) (17 : Int32)) q2 q3 q4 q5)), (own_i2b (f1_0 (17 : Int32) (p1 &&& (15 : Int32)) (own_rem (p0 &&& (2147483647 : Int32)) (17 : Int32)) q2 q3 q4 q5)), (own_i2b (f1_0 (18 : Int32) (p1 &&& (15 : Int32)) (own_rem (p0 &&& (2147483647 : Int32)) (17 : Int32)) q2 q3 q4 q5)), (own_i2b (f1_0 (19 : Int32) (p1 &&& (15 : Int32)) (own_rem (p0 &&& (2147483647 : Int32)) (17 : Int32)) q2 q3 q4 q5)), (own_i2b (f1_0 (20 : Int32) (p1 &&& (15 : Int32)) (own_rem (p0 &&& (2147483647 : Int32)) (17 : Int32)) q2 q3 q4 q5)), (own_i2b (f1_0 (21 : Int32) (p1 &&& (15 : Int32)) (own_rem (p0 &&& (2147483647 : Int32)) (17 : Int32)) q2 q3 q4 q5)), (own_i2b (f1_0 (22 : Int32) (p1 &&& (15 : Int32)) (own_rem (p0 &&& (2147483647 : Int32)) (17 : Int32)) q2 q3 q4 q5)), (own_i2b (f1_0 (23 : Int32) (p1 &&& (15 : Int32)) (own_rem (p0 &&& (2147483647 : Int32)) (17 : Int32)) q2 q3 q4 q5)), (own_i2b (f1_0 (24 : Int32) (p1 &&& (15 : Int32)) (own_rem (p0 &&& (2147483647 : Int32)) (17 : Int32)) q2 q3 q4 q5)), (own_i2b (f1_0 (25 : Int32) (p1 &&& (15 : Int32)) (own_rem (p0 &&& (2147483647 : Int32)) (17 : Int32)) q2 q3 q4 q5)), (own_i2b (f1_0 (26 : Int32) (p1 &&& (15 : Int32)) (own_rem (p0 &&& (2147483647 : Int32)) (17 : Int32)) q2 q3 q4 q5)), (own_i2b (f1_0 (27 : Int32) (p1 &&& (15 : Int32)) (own_rem (p0 &&& (2147483647 : Int32)) (17 : Int32)) q2 q3 q4 q5)), (own_i2b (f1_0 (28 : Int32) (p1 &&& (15 : Int32)) (own_rem (p0 &&& (2147483647 : Int32)) (17 : Int32)) q2 q3 q4 q5)), (own_i2b (f1_0 (29 : Int32) (p1 &&& (15 : Int32)) (own_rem (p0 &&& (2147483647 : Int32)) (17 : Int32)) q2 q3 q4 q5)), (own_i2b (f1_0 (30 : Int32) (p1 &&& (15 : Int32)) (own_rem (p0 &&& (2147483647 : Int32)) (17 : Int32)) q2 q3 q4 q5)), (own_i2b (f1_0 (31 : Int32) (p1 &&& (15 : Int32)) (own_rem (p0 &&& (2147483647 : Int32)) (17 : Int32)) q2 q3 q4 q5))] (p1 &&& (15 : Int32)) ((p1 &&& (15 : Int32)) + (own_rem (p0 &&& (2147483647 : Int32)) (17 : Int32))) h114 B114_b32 hs.1) (by decide) (by decide) (by rw [hml]; rfl) pd_3 rfl rfl rfl rfl (hb hby at_783) rfl rfl rfl (by decide) (by decide) rfl fun T115 X115 e115 => ?_
  refine o_lstore (pc' := 788) (l' := #[.val (.int p0), .val (.int p1), .val (.long q2), .second, .val (.long q3), .second, .val (.long q4), .second, .val (.long q5), .second, .val (.int (own_rem (p0 &&& (2147483647 : Int32)) (17 : Int32))), .val (.int (p1 &&& (15 : Int32))), .val (.ref b32), .val (.ref b97), .val (.long (f2_0 (506097522914230528 : Int64) (1084818905618843912 : Int64) [(own_i2b (f1_0 (0 : Int32) (p1 &&& (15 : Int32)) (own_rem (p0 &&& (2147483647 : Int32)) (17 : Int32)) q2 q3 q4 q5)), (own_i2b (f1_0 (1 : Int32) (p1 &&& (15 : Int32)) (own_rem (p0 &&& (2147483647 : Int32)) (17 : Int32)) q2 q3 q4 q5)), (own_i2b (f1_0 (2 : Int32) (p1 &&& (15 : Int32)) (own_rem (p0 &&& (2147483647 : Int32)) (17 : Int32)) q2 q3 q4 q5)), (own_i2b (f1_0 (3 : Int32) (p1 &&& (15 : Int32)) (own_rem (p0 &&& (2147483647 : Int32)) (17 : Int32)) q2 q3 q4 q5)), (own_i2b (f1_0 (4 : Int32) (p1 &&& (15 : Int32)) (own_rem (p0 &&& (2147483647 : Int32)) (17 : Int32)) q2 q3 q4 q5)), (own_i2b (f1_0 (5 : Int32) (p1 &&& (15 : Int32)) (own_rem (p0 &&& (2147483647 : Int32)) (17 : Int32)) q2 q3 q4 q5)), (own_i2b (f1_0 (6 : Int32) (p1 &&& (15 : Int32)) (own_rem (p0 &&& (2147483647 : Int32)) (17 : Int32)) q2 q3 q4 q5)), (own_i2b (f1_0 (7 : Int32) (p1 &&& (15 : Int32)) (own_rem (p0 &&& (2147483647 : Int32)) (17 : Int32)) q2 q3 q4 q5)), (own_i2b (f1_0 (8 : Int32) (p1 &&& (15 : Int32)) (own_rem (p0 &&& (2147483647 : Int32)) (17 : Int32)) q2 q3 q4 q5)), (own_i2b (f1_0 (9 : Int32) (p1 &&& (15 : Int32)) (own_rem (p0 &&& (2147483647 : Int32)) (17 : Int32)) q2 q3 q4 q5)), (own_i2b (f1_0 (10 : Int32) (p1 &&& (15 : Int32)) (own_rem (p0 &&& (2147483647 : Int32)) (17 : Int32)) q2 q3 q4 q5)), (own_i2b (f1_0 (11 : Int32) (p1 &&& (15 : Int32)) (own_rem (p0 &&& (2147483647 : Int32)) (17 : Int32)) q2 q3 q4 q5)), (own_i2b (f1_0 (12 : Int32) (p1 &&& (15 : Int32)) (own_rem (p0 &&& (2147483647 : Int32)) (17 : Int32)) q2 q3 q4 q5)), (own_i2b (f1_0 (13 : Int32) (p1 &&& (15 : Int32)) (own_rem (p0 &&& (2147483647 : Int32)) (17 : Int32)) q2 q3 q4 q5)), (own_i2b (f1_0 (14 : Int32) (p1 &&& (15 : Int32)) (own_rem (p0 &&& (2147483647 : Int32)) (17 : Int32)) q2 q3 q4 q5)), (own_i2b (f1_0 (15 : Int32) (p1 &&& (15 : Int32)) (own_rem (p0 &&& (2147483647 : Int32)) (17 : Int32)) q2 q3 q4 q5)), (own_i2b (f1_0 (16 : Int32) (p1 &&& (15 : Int32)) (own_rem (p0 &&& (2147483647 : Int32)) (17 : Int32)) q2 q3 q4 q5)), (own_i2b (f1_0 (17 : Int32) (p1 &&& (15 : Int32)) (own_rem (p0 &&& (2147483647 : Int32)) (17 : Int32)) q2 q3 q4 q5)), (own_i2b (f1_0 (18 : Int32) (p1 &&& (15 : Int32)) (own_rem (p0 &&& (2147483647 : Int32)) (17 : Int32)) q2 q3 q4 q5)), (own_i2b (f1_0 (19 : Int32) (p1 &&& (15 : Int32)) (own_rem (p0 &&& (2147483647 : Int32)) (17 : Int32)) q2 q3 q4 q5)), (own_i2b (f1_0 (20 : Int32) (p1 &&& (15 : Int32)) (own_rem (p0 &&& (2147483647 : Int32)) (17 : Int32)) q2 q3 q4 q5)), (own_i2b (f1_0 (21 : Int32) (p1 &&& (15 : Int32)) (own_rem (p0 &&& (2147483647 : Int32)) (17 : Int32)) q2 q3 q4 q5)), (own_i2b (f1_0 (22 : Int32) (p1 &&& (15 : Int32)) (own_rem (p0 &&& (2147483647 : Int32)) (17 : Int32)) q2 q3 q4 q5)), (own_i2b (f1_0 (23 : Int32) (p1 &&& (15 : Int32)) (own_rem (p0 &&& (2147483647 : Int32)) (17 : Int32)) q2 q3 q4 q5)), (own_i2b (f1_0 (24 : Int32) (p1 &&& (15 : Int32)) (own_rem (p0 &&& (2147483647 : Int32)) (17 : Int32)) q2 q3 q4 q5)), (own_i2b (f1_0 (25 : Int32) (p1 &&& (15 : Int32)) (own_rem (p0 &&& (2147483647 : Int32)) (17 : Int32)) q2 q3 q4 q5)), (own_i2b (f1_0 (26 : Int32) (p1 &&& (15 : Int32)) (own_rem (p0 &&& (2147483647 : Int32)) (17 : Int32)) q2 q3 q4 q5)), (own_i2b (f1_0 (27 : Int32) (p1 &&& (15 : Int32)) (own_rem (p0 &&& (2147483647 : Int32)) (17 : Int32)) q2 q3 q4 q5)), (own_i2b (f1_0 (28 : Int32) (p1 &&& (15 : Int32)) (own_rem (p0 &&& (2147483647 : Int32)) (17 : Int32)) q2 q3 q4 q5)), (own_i2b (f1_0 (29 : Int32) (p1 &&& (15 : Int32)) (own_rem (p0 &&& (2147483647 : Int32)) (17 : Int32)) q2 q3 q4 q5)), (own_i2b (f1_0 (30 : Int32) (p1 &&& (15 : Int32)) (own_rem (p0 &&& (2147483647 : Int32)) (17 : Int32)) q2 q3 q4 q5)), (own_i2b (f1_0 (31 : Int32) (p1 &&& (15 : Int32)) (own_rem (p0 &&& (2147483647 : Int32)) (17 : Int32)) q2 q3 q4 q5))] (p1 &&& (15 : Int32)) ((p1 &&& (15 : Int32)) + (own_rem (p0 &&& (2147483647 : Int32)) (17 : Int32))))), .second]) X115 hx (hb hby at_786) rfl rfl ?_
  refine o_lload (pc' := 790) X115 hx (hb hby at_788) rfl rfl ?_
  refine o_aload (pc' := 792) X115 hx (hb hby at_790) rfl rfl rfl ?_
  refine o_iload (pc' := 794) X115 hx (hb hby at_792) rfl rfl ?_
  refine o_laload (pc' := 795)  X115 hx hZ e115 A114 hs.2.1 (hb hby at_794) rfl rfl ?_
  refine o_lcmp (pc' := 796) X115 hx (hb hby at_795) rfl ?_
  refine o_ifN (P := (f2_0 (506097522914230528 : Int64) (1084818905618843912 : Int64) [(own_i2b (f1_0 (0 : Int32) (p1 &&& (15 : Int32)) (own_rem (p0 &&& (2147483647 : Int32)) (17 : Int32)) q2 q3 q4 q5)), (own_i2b (f1_0 (1 : Int32) (p1 &&& (15 : Int32)) (own_rem (p0 &&& (2147483647 : Int32)) (17 : Int32)) q2 q3 q4 q5)), (own_i2b (f1_0 (2 : Int32) (p1 &&& (15 : Int32)) (own_rem (p0 &&& (2147483647 : Int32)) (17 : Int32)) q2 q3 q4 q5)), (own_i2b (f1_0 (3 : Int32) (p1 &&& (15 : Int32)) (own_rem (p0 &&& (2147483647 : Int32)) (17 : Int32)) q2 q3 q4 q5)), (own_i2b (f1_0 (4 : Int32) (p1 &&& (15 : Int32)) (own_rem (p0 &&& (2147483647 : Int32)) (17 : Int32)) q2 q3 q4 q5)), (own_i2b (f1_0 (5 : Int32) (p1 &&& (15 : Int32)) (own_rem (p0 &&& (2147483647 : Int32)) (17 : Int32)) q2 q3 q4 q5)), (own_i2b (f1_0 (6 : Int32) (p1 &&& (15 : Int32)) (own_rem (p0 &&& (2147483647 : Int32)) (17 : Int32)) q2 q3 q4 q5)), (own_i2b (f1_0 (7 : Int32) (p1 &&& (15 : Int32)) (own_rem (p0 &&& (2147483647 : Int32)) (17 : Int32)) q2 q3 q4 q5)), (own_i2b (f1_0 (8 : Int32) (p1 &&& (15 : Int32)) (own_rem (p0 &&& (2147483647 : Int32)) (17 : Int32)) q2 q3 q4 q5)), (own_i2b (f1_0 (9 : Int32) (p1 &&& (15 : Int32)) (own_rem (p0 &&& (2147483647 : Int32)) (17 : Int32)) q2 q3 q4 q5)), (own_i2b (f1_0 (10 : Int32) (p1 &&& (15 : Int32)) (own_rem (p0 &&& (2147483647 : Int32)) (17 : Int32)) q2 q3 q4 q5)), (own_i2b (f1_0 (11 : Int32) (p1 &&& (15 : Int32)) (own_rem (p0 &&& (2147483647 : Int32)) (17 : Int32)) q2 q3 q4 q5)), (own_i2b (f1_0 (12 : Int32) (p1 &&& (15 : Int32)) (own_rem (p0 &&& (2147483647 : Int32)) (17 : Int32)) q2 q3 q4 q5)), (own_i2b (f1_0 (13 : Int32) (p1 &&& (15 : Int32)) (own_rem (p0 &&& (2147483647 : Int32)) (17 : Int32)) q2 q3 q4 q5)), (own_i2b (f1_0 (14 : Int32) (p1 &&& (15 : Int32)) (own_rem (p0 &&& (2147483647 : Int32)) (17 : Int32)) q2 q3 q4 q5)), (own_i2b (f1_0 (15 : Int32) (p1 &&& (15 : Int32)) (own_rem (p0 &&& (2147483647 : Int32)) (17 : Int32)) q2 q3 q4 q5)), (own_i2b (f1_0 (16 : Int32) (p1 &&& (15 : Int32)) (own_rem (p0 &&& (2147483647 : Int32)) (17 : Int32)) q2 q3 q4 q5)), (own_i2b (f1_0 (17 : Int32) (p1 &&& (15 : Int32)) (own_rem (p0 &&& (2147483647 : Int32)) (17 : Int32)) q2 q3 q4 q5)), (own_i2b (f1_0 (18 : Int32) (p1 &&& (15 : Int32)) (own_rem (p0 &&& (2147483647 : Int32)) (17 : Int32)) q2 q3 q4 q5)), (own_i2b (f1_0 (19 : Int32) (p1 &&& (15 : Int32)) (own_rem (p0 &&& (2147483647 : Int32)) (17 : Int32)) q2 q3 q4 q5)), (own_i2b (f1_0 (20 : Int32) (p1 &&& (15 : Int32)) (own_rem (p0 &&& (2147483647 : Int32)) (17 : Int32)) q2 q3 q4 q5)), (own_i2b (f1_0 (21 : Int32) (p1 &&& (15 : Int32)) (own_rem (p0 &&& (2147483647 : Int32)) (17 : Int32)) q2 q3 q4 q5)), (own_i2b (f1_0 (22 : Int32) (p1 &&& (15 : Int32)) (own_rem (p0 &&& (2147483647 : Int32)) (17 : Int32)) q2 q3 q4 q5)), (own_i2b (f1_0 (23 : Int32) (p1 &&& (15 : Int32)) (own_rem (p0 &&& (2147483647 : Int32)) (17 : Int32)) q2 q3 q4 q5)), (own_i2b (f1_0 (24 : Int32) (p1 &&& (15 : Int32)) (own_rem (p0 &&& (2147483647 : Int32)) (17 : Int32)) q2 q3 q4 q5)), (own_i2b (f1_0 (25 : Int32) (p1 &&& (15 : Int32)) (own_rem (p0 &&& (2147483647 : Int32)) (17 : Int32)) q2 q3 q4 q5)), (own_i2b (f1_0 (26 : Int32) (p1 &&& (15 : Int32)) (own_rem (p0 &&& (2147483647 : Int32)) (17 : Int32)) q2 q3 q4 q5)), (own_i2b (f1_0 (27 : Int32) (p1 &&& (15 : Int32)) (own_rem (p0 &&& (2147483647 : Int32)) (17 : Int32)) q2 q3 q4 q5)), (own_i2b (f1_0 (28 : Int32) (p1 &&& (15 : Int32)) (own_rem (p0 &&& (2147483647 : Int32)) (17 : Int32)) q2 q3 q4 q5)), (own_i2b (f1_0 (29 : Int32) (p1 &&& (15 : Int32)) (own_rem (p0 &&& (2147483647 : Int32)) (17 : Int32)) q2 q3 q4 q5)), (own_i2b (f1_0 (30 : Int32) (p1 &&& (15 : Int32)) (own_rem (p0 &&& (2147483647 : Int32)) (17 : Int32)) q2 q3 q4 q5)), (own_i2b (f1_0 (31 : Int32) (p1 &&& (15 : Int32)) (own_rem (p0 &&& (2147483647 : Int32)) (17 : Int32)) q2 q3 q4 q5))] (p1 &&& (15 : Int32)) ((p1 &&& (15 : Int32)) + (own_rem (p0 &&& (2147483647 : Int32)) (17 : Int32)))) = (own_getL [(8246050544436514353 : Int64), (8428550223375919101 : Int64), (967288799772626778 : Int64), (-8833979346009227731 : Int64), (-3519680893311416393 : Int64), (1762690195596617357 : Int64), (-3762398573937892402 : Int64), (-6124331488671313609 : Int64), (-7785046478206851998 : Int64), (-7061500321231936336 : Int64), (8817410102741809651 : Int64), (-814255129352229465 : Int64), (8439340791604635131 : Int64), (1507111754042457488 : Int64), (-638443999941954834 : Int64), (-6833708440360172059 : Int64), (4551675220716592091 : Int64)] (own_rem (p0 &&& (2147483647 : Int32)) (17 : Int32)))) (pc1 := 803) (pc2 := 799) X115 hx XT.ll_ne_f XT.ll_ne_t (hb hby at_796) (by decide) (by decide) rfl (fun c116 => ?_) (fun c116 => ?_)
  · rw [if_neg c116] at hK
    refine o_iconst (pc' := 804) (x := (0 : Int32)) X115 hx (hb hby at_803) (by decide) rfl ?_
    exact b0_804 C X115 e115 (One.val rfl) (One.val rfl) (One.val rfl) (One.val rfl) (One.val rfl) (One.val rfl) hK
  · rw [if_pos c116] at hK
    refine o_iconst (pc' := 800) (x := (1 : Int32)) X115 hx (hb hby at_799) (by decide) rfl ?_
    refine o_goto (pc' := 804) X115 hx (hb hby at_800) (by decide) (by decide) ?_
    exact b0_804_2 C X115 e115 (One.val rfl) (One.val rfl) (One.val rfl) (One.val rfl) (One.val rfl) (One.val rfl) hK

end Body0
theorem ef_0 (m : MethodId) (p0 : Int32) (p1 : Int32) (q2 : Int64) (q3 : Int64) (q4 : Int64) (q5 : Int64) : entryFrame m #[(.int p0), (.int p1), (.long q2), (.long q3), (.long q4), (.long q5)] maxLocals = mkF m 0 #[.val (.int p0), .val (.int p1), .val (.long q2), .second, .val (.long q3), .second, .val (.long q4), .second, .val (.long q5), .second, .unset, .unset, .unset, .unset, .unset, .unset] [] := by first | (simp [entryFrame, mkF, argsToLocals, Value.category, maxLocals]; done) | rfl
set_option maxRecDepth 65536 in
set_option maxHeartbeats 40000000 in
theorem rm0 (l : Launch) (Z : State) (ag : Array Value) (hw : ∀ d ∈ tables_1, d.before ag Z = true) (ws : List Jvm.Cond) (p0 : Int32) (p1 : Int32) (q2 : Int64) (q3 : Int64) (q4 : Int64) (q5 : Int64) (h0 : Heap) (hs : s0_0 p0 p1 q2 q3 q4 q5) :
    MetFree l x (head1 (Jvm.Cond.code x code maxLocals ret :: ws) R0) (fun a U => a = #[(.int p0), (.int p1), (.long q2), (.long q3), (.long q4), (.long q5)] ∧ Z.Warmed39 U.vm ∧ U.heap = h0) (fun _ _ _ _ _ => True) (fun _ U o U' => ∃ v L, o = .returned v ∧ own_KL (some (.int (f0_0 p0 p1 q2 q3 q4 q5))) v U'.heap L ∧ FrameEnd U o U' L cc0 ss0) := by
  refine MetFree.of_bodySF (plainFor_of_name pn_SipHashOfPinLaw) hisR ?_
  intro p e s m args below meth c s₁ Bd hml0 hP hK
  obtain ⟨rfl, hZ, hh⟩ := hP
  have C : own_Cx p s m meth c Z ag code maxLocals "com/example/fairtally/fairtally/ledger/csv/SipHashOfPinLaw" ret "law" := ⟨Bd.exec, hZ, hw, Bd.bytes, hml0, findClass_of_methodNamed Bd.named, Bd.returns, Bd.notSynchronized, (name_of_methodNamed Bd.named Bd.method).1⟩
  have X0 : Stand p l e R0 s m #[(.int p0), (.int p1), (.long q2), (.long q3), (.long q4), (.long q5)] below meth c s₁ [] 0 0 := Stand.of_body Bd
  have e0 : s₁.heap = h0 := by rw [← hh, Bd.state]; rfl
  rw [ef_0]
  exact b0_0 (K := own_KL (some (.int (f0_0 p0 p1 q2 q3 q4 q5)))) C p0 p1 q2 q3 q4 q5 X0 e0 hs (fun _ => ⟨rfl, rfl⟩)

theorem own_pred (k : Nat) (h : k < 100) : Int32.ofNat (k + 1) - 1 = Int32.ofNat k := by
  have := own_nat_sub (a := k + 1) (b := 1) (by omega) (by omega)
  rw [Nat.add_sub_cancel] at this
  exact this
theorem own_pred2 (k : Nat) (h : k < 100) : Int32.ofNat k + -1 = Int32.ofNat k - 1 := by
  rw [Int32.sub_eq_add_neg]
theorem own_neg0 : Int32.ofNat 0 - 1 < 0 := by decide
theorem own_nonneg {k : Nat} (h : k < 100) : ¬ Int32.ofNat k < 0 := by
  rw [show (0 : Int32) = Int32.ofNat 0 from rfl, own_nat_lt (by omega) (by omega)]; omega
theorem own_f3c {v w : List Int32} {P Q : Int32} : ∀ (m k : Nat) (x3 : Int64), k < 50 → (∀ i, i < k → own_get v (P + Int32.ofNat i) = own_get w (Q + Int32.ofNat i)) → f3_7 m v P x3 (Int32.ofNat k - 1) = f3_7 m w Q x3 (Int32.ofNat k - 1) := by
  intro m
  induction m with
  | zero => intro k x3 _ _; rfl
  | succ m ih =>
    intro k x3 hk h
    match k with
    | 0 => rw [f3_7, f3_7, if_pos own_neg0, if_pos own_neg0]
    | k + 1 =>
      rw [own_pred k (by omega), f3_7, f3_7, if_neg (own_nonneg (by omega)), if_neg (own_nonneg (by omega)), h k (by omega), own_pred2 k (by omega)]
      exact ih k _ (by omega) (fun i hi => h i (by omega))
theorem own_s3c {v : List Int32} {P : Int32} : ∀ (m k : Nat) (x3 : Int64), k < m → m < 90 → (∀ i, i < k → own_in v.length (P + Int32.ofNat i)) → s3_7 m v P x3 (Int32.ofNat k - 1) := by
  intro m
  induction m with
  | zero => intro k x3 h0 _ _; omega
  | succ m ih =>
    intro k x3 hk h9 h
    match k with
    | 0 => exact ⟨fun _ => trivial, fun q => absurd own_neg0 q⟩
    | k + 1 =>
      rw [own_pred k (by omega), s3_7, own_pred2 k (by omega)]
      exact ⟨fun q => absurd q (own_nonneg (by omega)), fun _ => ⟨h k (by omega), ih k _ (by omega) (by omega) (fun i hi => h i (by omega))⟩⟩
theorem own_at (P : Int32) (j i : Nat) : P + Int32.ofNat j * 8 + Int32.ofNat i = P + Int32.ofNat (j * 8 + i) := by
  rw [Int32.ofNat_add, Int32.ofNat_mul, Int32.add_assoc]; rfl
def own_H (v w : List Int32) (P Q : Int32) (N : Nat) : Prop :=
  (∀ i, i < N → own_get v (P + Int32.ofNat i) = own_get w (Q + Int32.ofNat i)) ∧ (∀ i, i < N → own_in v.length (P + Int32.ofNat i)) ∧ N < 17 ∧ own_rem (Int32.ofNat N) 8 = Int32.ofNat (N % 8)
theorem own_Hg {v w : List Int32} {P Q : Int32} {N : Nat} (H : own_H v w P Q N) : ∀ i, i < N → own_get v (P + Int32.ofNat i) = own_get w (Q + Int32.ofNat i) := H.1
theorem own_Hs {v w : List Int32} {P Q : Int32} {N : Nat} (H : own_H v w P Q N) : ∀ i, i < N → own_in v.length (P + Int32.ofNat i) := H.2.1
theorem own_Hn {v w : List Int32} {P Q : Int32} {N : Nat} (H : own_H v w P Q N) : N < 17 := H.2.2.1
theorem own_Hr {v w : List Int32} {P Q : Int32} {N : Nat} (H : own_H v w P Q N) : own_rem (Int32.ofNat N) 8 = Int32.ofNat (N % 8) := H.2.2.2
theorem own_Hf3 {v w : List Int32} {P Q : Int32} {N : Nat} (H : own_H v w P Q N) (j k : Nat) (h : j * 8 + k ≤ N) : f3_0 v (P + Int32.ofNat j * 8) (Int32.ofNat k) = f3_0 w (Q + Int32.ofNat j * 8) (Int32.ofNat k) := by
  have := own_Hn H
  exact own_f3c 64 k 0 (by omega) (fun i hi => by rw [own_at, own_at]; exact own_Hg H _ (by omega))
theorem own_Hs3 {v w : List Int32} {P Q : Int32} {N : Nat} (H : own_H v w P Q N) (j k : Nat) (h : j * 8 + k ≤ N) : s3_0 v (P + Int32.ofNat j * 8) (Int32.ofNat k) := by
  have := own_Hn H
  exact own_s3c 64 k 0 (by omega) (by omega) (fun i hi => by rw [own_at]; exact own_Hs H _ (by omega))
theorem own_ofeq {a b : Nat} (ha : a < 100) (hb : b < 100) : Int32.ofNat a = Int32.ofNat b ↔ a = b := by
  rw [own_eq, own_nat_toInt (by omega), own_nat_toInt (by omega)]; omega
theorem own_c47 {v w : List Int32} {P Q : Int32} {N : Nat} (H : own_H v w P Q N) (r : List Int32 → Int32 → Int64 → Int64 → Int64 → Int64 → Int32 → Int32 → Int32 → Int32 → Int64 → Int32 → Int64) (j : Nat) (hj : j ≤ N / 8 + 2)
    (hr : j ≤ N / 8 + 1 → ∀ a b c d x18 x20 x22, r v P a b c d (Int32.ofNat N) (Int32.ofNat (N / 8 + 1)) (Int32.ofNat j) x18 x20 x22 = r w Q a b c d (Int32.ofNat N) (Int32.ofNat (N / 8 + 1)) (Int32.ofNat j) x18 x20 x22) (a b c d : Int64) :
    f2_47_3 r v P a b c d (Int32.ofNat N) (Int32.ofNat (N / 8 + 1)) (Int32.ofNat j) = f2_47_3 r w Q a b c d (Int32.ofNat N) (Int32.ofNat (N / 8 + 1)) (Int32.ofNat j) := by
  have := own_Hn H
  unfold f2_47_3
  by_cases c1 : Int32.ofNat (N / 8 + 1) < Int32.ofNat j
  · rw [if_pos c1, if_pos c1]
  rw [if_neg c1, if_neg c1]
  rw [own_nat_lt (by omega) (by omega)] at c1
  by_cases c2 : Int32.ofNat j = Int32.ofNat (N / 8 + 1)
  · rw [if_pos c2, if_pos c2]; exact hr (by omega) _ _ _ _ _ _ _
  rw [if_neg c2, if_neg c2]
  rw [own_ofeq (by omega) (by omega)] at c2
  rw [own_pred (N / 8) (by omega)]
  by_cases c3 : Int32.ofNat j < Int32.ofNat (N / 8)
  · rw [if_pos c3, if_pos c3]
    rw [own_nat_lt (by omega) (by omega)] at c3
    rw [show (8 : Int32) = Int32.ofNat 8 from rfl] 
    have e := own_Hf3 H j 8 (by omega)
    rw [show (8 : Int32) = Int32.ofNat 8 from rfl] at e
    rw [e]
    exact hr (by omega) _ _ _ _ _ _ _
  · rw [if_neg c3, if_neg c3]
    rw [own_nat_lt (by omega) (by omega)] at c3
    have e := own_Hf3 H j (N % 8) (by omega)
    rw [own_Hr H, e]
    exact hr (by omega) _ _ _ _ _ _ _
theorem own_c151 {v w : List Int32} {P Q : Int32} {N : Nat} (H : own_H v w P Q N) : ∀ (n j : Nat) (a b c d : Int64) (x18 : Int32) (x20 : Int64) (x22 : Int32), j ≤ N / 8 + 1 →
    f2_151 n v P a b c d (Int32.ofNat N) (Int32.ofNat (N / 8 + 1)) (Int32.ofNat j) x18 x20 x22 = f2_151 n w Q a b c d (Int32.ofNat N) (Int32.ofNat (N / 8 + 1)) (Int32.ofNat j) x18 x20 x22 := by
  intro n
  induction n with
  | zero => intros; rfl
  | succ n ih =>
    intro j a b c d x18 x20 x22 hj
    have h47 := fun a b c d => own_c47 H (f2_151 n) (j + 1) (by omega) (fun h a b c d x18 x20 x22 => ih (j + 1) a b c d x18 x20 x22 h) a b c d
    rw [f2_151, f2_151, own_nat_one, ih j _ _ _ _ _ _ _ hj, h47]
theorem own_s47 {v w : List Int32} {P Q : Int32} {N : Nat} (H : own_H v w P Q N) (q : List Int32 → Int32 → Int64 → Int64 → Int64 → Int64 → Int32 → Int32 → Int32 → Int32 → Int64 → Int32 → Prop) (j : Nat) (hj : j ≤ N / 8 + 2)
    (hq : j ≤ N / 8 + 1 → ∀ a b c d x18 x20, q v P a b c d (Int32.ofNat N) (Int32.ofNat (N / 8 + 1)) (Int32.ofNat j) x18 x20 0) (a b c d : Int64) :
    s2_47_3 q v P a b c d (Int32.ofNat N) (Int32.ofNat (N / 8 + 1)) (Int32.ofNat j) := by
  have := own_Hn H
  unfold s2_47_3
  refine ⟨fun _ => trivial, fun c1 => ?_⟩
  rw [own_nat_lt (by omega) (by omega)] at c1
  refine ⟨fun _ => hq (by omega) _ _ _ _ _ _, fun c2 => ?_⟩
  rw [own_ofeq (by omega) (by omega)] at c2
  rw [own_pred (N / 8) (by omega)]
  refine ⟨fun c3 => ?_, fun c3 => ?_⟩
  · rw [own_nat_lt (by omega) (by omega)] at c3
    exact ⟨own_Hs3 H j 8 (by omega), hq (by omega) _ _ _ _ _ _⟩
  · rw [own_nat_lt (by omega) (by omega)] at c3
    refine ⟨?_, hq (by omega) _ _ _ _ _ _⟩
    rw [own_Hr H]
    exact own_Hs3 H j (N % 8) (by omega)
theorem own_s151 {v w : List Int32} {P Q : Int32} {N : Nat} (H : own_H v w P Q N) : ∀ (n j y : Nat) (a b c d : Int64) (x18 : Int32) (x20 : Int64), j ≤ N / 8 + 1 → y ≤ 4 → (5 - y) + 5 * (N / 8 + 1 - j) ≤ n →
    s2_151 n v P a b c d (Int32.ofNat N) (Int32.ofNat (N / 8 + 1)) (Int32.ofNat j) x18 x20 (Int32.ofNat y) := by
  have := own_Hn H
  intro n
  induction n with
  | zero => intro j y a b c d x18 x20 h1 h2 h3; omega
  | succ n ih =>
    intro j y a b c d x18 x20 h1 h2 h3
    have h47 := fun a b c d => own_s47 H (s2_151 n) (j + 1) (by omega) (fun h a b c d x18 x20 => ih (j + 1) 0 a b c d x18 x20 h (by omega) (by omega)) a b c d
    rw [s2_151, own_nat_one, own_nat_one]
    have e2 : (Int32.ofNat y < 2) ↔ y < 2 := own_nat_lt (n := 2) (by omega) (by omega)
    have e4 : (Int32.ofNat y < 4) ↔ y < 4 := own_nat_lt (n := 4) (by omega) (by omega)
    rw [e2, e4]
    exact ⟨fun _ => ⟨fun c => ih j (y + 1) _ _ _ _ _ _ h1 (by omega) (by omega), fun _ => h47 _ _ _ _⟩, fun _ => ⟨fun c => ih j (y + 1) _ _ _ _ _ _ h1 (by omega) (by omega), fun _ => h47 _ _ _ _⟩⟩
theorem own_f20 {v w : List Int32} {P Q : Int32} {N : Nat} (H : own_H v w P Q N) (hd : Int32.ofNat N / 8 + 1 = Int32.ofNat (N / 8 + 1)) (k0 k1 : Int64) :
    s2_0 k0 k1 v P (P + Int32.ofNat N) ∧ f2_0 k0 k1 v P (P + Int32.ofNat N) = f2_0 k0 k1 w Q (Q + Int32.ofNat N) := by
  have := own_Hn H
  have e : ∀ P : Int32, P + Int32.ofNat N - P = Int32.ofNat N := fun P => by rw [Int32.add_comm, Int32.add_sub_cancel]
  unfold f2_0 s2_0
  rw [e, e, hd]
  constructor
  · exact own_s47 H (s2_151 64) 0 (by omega) (fun h a b c d x18 x20 => own_s151 H 64 0 0 a b c d x18 x20 h (by omega) (by omega)) _ _ _ _
  · exact own_c47 H (f2_151 64) 0 (by omega) (fun h a b c d x18 x20 x22 => own_c151 H 64 0 a b c d x18 x20 x22 h) _ _ _ _
def own_w : List Int32 := [0, 1, 2, 3, 4, 5, 6, 7, 8, 9, 10, 11, 12, 13, 14, 15]
def own_tab : List Int64 := [(8246050544436514353 : Int64), (8428550223375919101 : Int64), (967288799772626778 : Int64), (-8833979346009227731 : Int64), (-3519680893311416393 : Int64), (1762690195596617357 : Int64), (-3762398573937892402 : Int64), (-6124331488671313609 : Int64), (-7785046478206851998 : Int64), (-7061500321231936336 : Int64), (8817410102741809651 : Int64), (-814255129352229465 : Int64), (8439340791604635131 : Int64), (1507111754042457488 : Int64), (-638443999941954834 : Int64), (-6833708440360172059 : Int64), (4551675220716592091 : Int64)]
def own_vs (F N : Int32) (q2 q3 q4 q5 : Int64) : List Int32 := [(own_i2b (f1_0 (0 : Int32) F N q2 q3 q4 q5)), (own_i2b (f1_0 (1 : Int32) F N q2 q3 q4 q5)), (own_i2b (f1_0 (2 : Int32) F N q2 q3 q4 q5)), (own_i2b (f1_0 (3 : Int32) F N q2 q3 q4 q5)), (own_i2b (f1_0 (4 : Int32) F N q2 q3 q4 q5)), (own_i2b (f1_0 (5 : Int32) F N q2 q3 q4 q5)), (own_i2b (f1_0 (6 : Int32) F N q2 q3 q4 q5)), (own_i2b (f1_0 (7 : Int32) F N q2 q3 q4 q5)), (own_i2b (f1_0 (8 : Int32) F N q2 q3 q4 q5)), (own_i2b (f1_0 (9 : Int32) F N q2 q3 q4 q5)), (own_i2b (f1_0 (10 : Int32) F N q2 q3 q4 q5)), (own_i2b (f1_0 (11 : Int32) F N q2 q3 q4 q5)), (own_i2b (f1_0 (12 : Int32) F N q2 q3 q4 q5)), (own_i2b (f1_0 (13 : Int32) F N q2 q3 q4 q5)), (own_i2b (f1_0 (14 : Int32) F N q2 q3 q4 q5)), (own_i2b (f1_0 (15 : Int32) F N q2 q3 q4 q5)), (own_i2b (f1_0 (16 : Int32) F N q2 q3 q4 q5)), (own_i2b (f1_0 (17 : Int32) F N q2 q3 q4 q5)), (own_i2b (f1_0 (18 : Int32) F N q2 q3 q4 q5)), (own_i2b (f1_0 (19 : Int32) F N q2 q3 q4 q5)), (own_i2b (f1_0 (20 : Int32) F N q2 q3 q4 q5)), (own_i2b (f1_0 (21 : Int32) F N q2 q3 q4 q5)), (own_i2b (f1_0 (22 : Int32) F N q2 q3 q4 q5)), (own_i2b (f1_0 (23 : Int32) F N q2 q3 q4 q5)), (own_i2b (f1_0 (24 : Int32) F N q2 q3 q4 q5)), (own_i2b (f1_0 (25 : Int32) F N q2 q3 q4 q5)), (own_i2b (f1_0 (26 : Int32) F N q2 q3 q4 q5)), (own_i2b (f1_0 (27 : Int32) F N q2 q3 q4 q5)), (own_i2b (f1_0 (28 : Int32) F N q2 q3 q4 q5)), (own_i2b (f1_0 (29 : Int32) F N q2 q3 q4 q5)), (own_i2b (f1_0 (30 : Int32) F N q2 q3 q4 q5)), (own_i2b (f1_0 (31 : Int32) F N q2 q3 q4 q5))]
theorem own_t0 : f2_0 506097522914230528 1084818905618843912 own_w 0 (0 + Int32.ofNat 0) = own_getL own_tab (Int32.ofNat 0) := by decide +kernel
theorem own_t1 : f2_0 506097522914230528 1084818905618843912 own_w 0 (0 + Int32.ofNat 1) = own_getL own_tab (Int32.ofNat 1) := by decide +kernel
theorem own_t2 : f2_0 506097522914230528 1084818905618843912 own_w 0 (0 + Int32.ofNat 2) = own_getL own_tab (Int32.ofNat 2) := by decide +kernel
theorem own_t3 : f2_0 506097522914230528 1084818905618843912 own_w 0 (0 + Int32.ofNat 3) = own_getL own_tab (Int32.ofNat 3) := by decide +kernel
theorem own_t4 : f2_0 506097522914230528 1084818905618843912 own_w 0 (0 + Int32.ofNat 4) = own_getL own_tab (Int32.ofNat 4) := by decide +kernel
theorem own_t5 : f2_0 506097522914230528 1084818905618843912 own_w 0 (0 + Int32.ofNat 5) = own_getL own_tab (Int32.ofNat 5) := by decide +kernel
theorem own_t6 : f2_0 506097522914230528 1084818905618843912 own_w 0 (0 + Int32.ofNat 6) = own_getL own_tab (Int32.ofNat 6) := by decide +kernel
theorem own_t7 : f2_0 506097522914230528 1084818905618843912 own_w 0 (0 + Int32.ofNat 7) = own_getL own_tab (Int32.ofNat 7) := by decide +kernel
theorem own_t8 : f2_0 506097522914230528 1084818905618843912 own_w 0 (0 + Int32.ofNat 8) = own_getL own_tab (Int32.ofNat 8) := by decide +kernel
theorem own_t9 : f2_0 506097522914230528 1084818905618843912 own_w 0 (0 + Int32.ofNat 9) = own_getL own_tab (Int32.ofNat 9) := by decide +kernel
theorem own_t10 : f2_0 506097522914230528 1084818905618843912 own_w 0 (0 + Int32.ofNat 10) = own_getL own_tab (Int32.ofNat 10) := by decide +kernel
theorem own_t11 : f2_0 506097522914230528 1084818905618843912 own_w 0 (0 + Int32.ofNat 11) = own_getL own_tab (Int32.ofNat 11) := by decide +kernel
theorem own_t12 : f2_0 506097522914230528 1084818905618843912 own_w 0 (0 + Int32.ofNat 12) = own_getL own_tab (Int32.ofNat 12) := by decide +kernel
theorem own_t13 : f2_0 506097522914230528 1084818905618843912 own_w 0 (0 + Int32.ofNat 13) = own_getL own_tab (Int32.ofNat 13) := by decide +kernel
theorem own_t14 : f2_0 506097522914230528 1084818905618843912 own_w 0 (0 + Int32.ofNat 14) = own_getL own_tab (Int32.ofNat 14) := by decide +kernel
theorem own_t15 : f2_0 506097522914230528 1084818905618843912 own_w 0 (0 + Int32.ofNat 15) = own_getL own_tab (Int32.ofNat 15) := by decide +kernel
theorem own_t16 : f2_0 506097522914230528 1084818905618843912 own_w 0 (0 + Int32.ofNat 16) = own_getL own_tab (Int32.ofNat 16) := by decide +kernel
theorem own_vget (F N : Int32) (q2 q3 q4 q5 : Int64) : ∀ i : Nat, i < 32 → (own_vs F N q2 q3 q4 q5).getD i 0 = own_i2b (f1_0 (Int32.ofNat i) F N q2 q3 q4 q5) := by
  intro i hi
  match i, hi with
  | 0, _ => rfl
  | 1, _ => rfl
  | 2, _ => rfl
  | 3, _ => rfl
  | 4, _ => rfl
  | 5, _ => rfl
  | 6, _ => rfl
  | 7, _ => rfl
  | 8, _ => rfl
  | 9, _ => rfl
  | 10, _ => rfl
  | 11, _ => rfl
  | 12, _ => rfl
  | 13, _ => rfl
  | 14, _ => rfl
  | 15, _ => rfl
  | 16, _ => rfl
  | 17, _ => rfl
  | 18, _ => rfl
  | 19, _ => rfl
  | 20, _ => rfl
  | 21, _ => rfl
  | 22, _ => rfl
  | 23, _ => rfl
  | 24, _ => rfl
  | 25, _ => rfl
  | 26, _ => rfl
  | 27, _ => rfl
  | 28, _ => rfl
  | 29, _ => rfl
  | 30, _ => rfl
  | 31, _ => rfl
  | n + 32, h => exact absurd h (by omega)
theorem own_wget : ∀ i : Fin 16, own_get own_w (0 + Int32.ofNat i.val) = own_i2b (own_i2b (own_i2b (Int32.ofNat i.val))) := by decide +kernel
theorem own_HH {F N : Nat} (hF : F < 16) (hN : N < 17) (hr : own_rem (Int32.ofNat N) 8 = Int32.ofNat (N % 8)) (q2 q3 q4 q5 : Int64) : own_H (own_vs (Int32.ofNat F) (Int32.ofNat N) q2 q3 q4 q5) own_w (Int32.ofNat F) 0 N := by
  refine ⟨fun i hi => ?_, fun i hi => ?_, hN, hr⟩
  · rw [← Int32.ofNat_add, own_nat_get _ (by omega), own_vget _ _ _ _ _ _ (F + i) (by omega), own_wget ⟨i, by omega⟩]
    have n1 : ¬ Int32.ofNat (F + i) < Int32.ofNat F := by rw [own_nat_lt (by omega) (by omega)]; omega
    have n2 : Int32.ofNat (F + i) < Int32.ofNat F + Int32.ofNat N := by rw [← Int32.ofNat_add, own_nat_lt (by omega) (by omega)]; omega
    rw [f1_0, if_neg n1, if_pos n2, own_nat_sub (by omega) (by omega), Nat.add_sub_cancel_left]
  · rw [← Int32.ofNat_add]
    exact own_nat_in (n := 32) (by omega) (by omega)
theorem own_core {F N : Nat} (hF : F < 16) (hN : N < 17) (q2 q3 q4 q5 : Int64) : s2_0 506097522914230528 1084818905618843912 (own_vs (Int32.ofNat F) (Int32.ofNat N) q2 q3 q4 q5) (Int32.ofNat F) (Int32.ofNat F + Int32.ofNat N) ∧ f2_0 506097522914230528 1084818905618843912 (own_vs (Int32.ofNat F) (Int32.ofNat N) q2 q3 q4 q5) (Int32.ofNat F) (Int32.ofNat F + Int32.ofNat N) = own_getL own_tab (Int32.ofNat N) := by
  have h : N = 0 ∨ N = 1 ∨ N = 2 ∨ N = 3 ∨ N = 4 ∨ N = 5 ∨ N = 6 ∨ N = 7 ∨ N = 8 ∨ N = 9 ∨ N = 10 ∨ N = 11 ∨ N = 12 ∨ N = 13 ∨ N = 14 ∨ N = 15 ∨ N = 16 := by omega
  rcases h with rfl | rfl | rfl | rfl | rfl | rfl | rfl | rfl | rfl | rfl | rfl | rfl | rfl | rfl | rfl | rfl | rfl
  · have r := own_f20 (own_HH hF hN (by decide) q2 q3 q4 q5) (by decide) 506097522914230528 1084818905618843912
    exact ⟨r.1, r.2.trans own_t0⟩
  · have r := own_f20 (own_HH hF hN (by decide) q2 q3 q4 q5) (by decide) 506097522914230528 1084818905618843912
    exact ⟨r.1, r.2.trans own_t1⟩
  · have r := own_f20 (own_HH hF hN (by decide) q2 q3 q4 q5) (by decide) 506097522914230528 1084818905618843912
    exact ⟨r.1, r.2.trans own_t2⟩
  · have r := own_f20 (own_HH hF hN (by decide) q2 q3 q4 q5) (by decide) 506097522914230528 1084818905618843912
    exact ⟨r.1, r.2.trans own_t3⟩
  · have r := own_f20 (own_HH hF hN (by decide) q2 q3 q4 q5) (by decide) 506097522914230528 1084818905618843912
    exact ⟨r.1, r.2.trans own_t4⟩
  · have r := own_f20 (own_HH hF hN (by decide) q2 q3 q4 q5) (by decide) 506097522914230528 1084818905618843912
    exact ⟨r.1, r.2.trans own_t5⟩
  · have r := own_f20 (own_HH hF hN (by decide) q2 q3 q4 q5) (by decide) 506097522914230528 1084818905618843912
    exact ⟨r.1, r.2.trans own_t6⟩
  · have r := own_f20 (own_HH hF hN (by decide) q2 q3 q4 q5) (by decide) 506097522914230528 1084818905618843912
    exact ⟨r.1, r.2.trans own_t7⟩
  · have r := own_f20 (own_HH hF hN (by decide) q2 q3 q4 q5) (by decide) 506097522914230528 1084818905618843912
    exact ⟨r.1, r.2.trans own_t8⟩
  · have r := own_f20 (own_HH hF hN (by decide) q2 q3 q4 q5) (by decide) 506097522914230528 1084818905618843912
    exact ⟨r.1, r.2.trans own_t9⟩
  · have r := own_f20 (own_HH hF hN (by decide) q2 q3 q4 q5) (by decide) 506097522914230528 1084818905618843912
    exact ⟨r.1, r.2.trans own_t10⟩
  · have r := own_f20 (own_HH hF hN (by decide) q2 q3 q4 q5) (by decide) 506097522914230528 1084818905618843912
    exact ⟨r.1, r.2.trans own_t11⟩
  · have r := own_f20 (own_HH hF hN (by decide) q2 q3 q4 q5) (by decide) 506097522914230528 1084818905618843912
    exact ⟨r.1, r.2.trans own_t12⟩
  · have r := own_f20 (own_HH hF hN (by decide) q2 q3 q4 q5) (by decide) 506097522914230528 1084818905618843912
    exact ⟨r.1, r.2.trans own_t13⟩
  · have r := own_f20 (own_HH hF hN (by decide) q2 q3 q4 q5) (by decide) 506097522914230528 1084818905618843912
    exact ⟨r.1, r.2.trans own_t14⟩
  · have r := own_f20 (own_HH hF hN (by decide) q2 q3 q4 q5) (by decide) 506097522914230528 1084818905618843912
    exact ⟨r.1, r.2.trans own_t15⟩
  · have r := own_f20 (own_HH hF hN (by decide) q2 q3 q4 q5) (by decide) 506097522914230528 1084818905618843912
    exact ⟨r.1, r.2.trans own_t16⟩
theorem own_both (p0 p1 : Int32) (q2 q3 q4 q5 : Int64) : s0_0 p0 p1 q2 q3 q4 q5 ∧ f0_0 p0 p1 q2 q3 q4 q5 = 1 := by
  have m := own_max p0
  have l17 : (17 : Int32).toInt = 17 := rfl
  have e : (own_rem (p0 &&& 2147483647) 17).toInt = (p0 &&& 2147483647).toInt % 17 := own_emod (by omega)
  have a := Jvm.Kit.i32_mask p1 15 (k := 4) (by decide) (by decide)
  obtain ⟨F, hF, eF, _⟩ := own_nat_of (x := p1 &&& 15) (by omega)
  obtain ⟨N, hN, eN, _⟩ := own_nat_of (x := own_rem (p0 &&& 2147483647) 17) (by omega)
  obtain ⟨c1, c2⟩ := own_core (F := F) (N := N) (by omega) (by omega) q2 q3 q4 q5
  rw [← hF, ← hN] at c1 c2
  constructor
  · refine ⟨c1, ?_, trivial⟩
    rw [hN]
    exact own_nat_in (n := 17) (by omega) (by omega)
  · unfold f0_0
    exact (if_pos c2).trans rfl
theorem own_law (p0 p1 : Int32) (q2 q3 q4 q5 : Int64) : f0_0 p0 p1 q2 q3 q4 q5 = 1 := (own_both p0 p1 q2 q3 q4 q5).2
theorem own_safe (p0 p1 : Int32) (q2 q3 q4 q5 : Int64) : s0_0 p0 p1 q2 q3 q4 q5 := (own_both p0 p1 q2 q3 q4 q5).1

set_option maxRecDepth 65536 in
set_option maxHeartbeats 40000000 in
theorem comes_1 {Post : Tables → Env → Array Value → State → Outcome → State → Prop} (hpost : ∀ tb e args s v u, (limb_1_1.after args s (.returned v) u = true ∧ limb_1_2.after args s (.returned v) u = true) → FrameEnd s (.returned v) u (Jvm.fieldLocs frame_1_writes args s ++ Jvm.arrayLocs frame_1_arrays args s ++ Jvm.staticLocs frame_1_statics s) 16 192 → Post tb e args s (.returned v) u) :
    ArmFor flags0 classFile x code maxLocals ret World_1 tables_1 room_1 Calls_1 rest_1 Pre_1 Post := by
  intro l hfl _ _ p e ha hc hk s m args below hf hA hF happ hP
  obtain ⟨hcalls, hrest, hpre⟩ := hP
  obtain ⟨-, -, -, hnamed, -, -, -, hat⟩ := (Spec.applies_iff hf).mp happ
  obtain ⟨hg, hn⟩ := and_e (Cond.before_iff.mp (show (Jvm.Cond.and given_1 narrow_1).before args s = true from hpre))
  obtain ⟨g1a, g1b⟩ := and_e hg
  obtain ⟨g2a, g2b⟩ := and_e g1b
  obtain ⟨g3a, g3b⟩ := and_e g2b
  obtain ⟨g4a, g4b⟩ := and_e g3b
  obtain ⟨g5a, g5b⟩ := and_e g4b
  obtain ⟨g6a, g6b⟩ := and_e g5b
  obtain ⟨w0, w1, w2, w3, w4, w5, rfl⟩ : ∃ w0 w1 w2 w3 w4 w5 : Value, args = #[w0, w1, w2, w3, w4, w5] := by
    have hs : args.size = 6 := by simpa [Cond.value, given_1] using g1a
    obtain ⟨L⟩ := args
    match L, hs with
    | [w0, w1, w2, w3, w4, w5], _ => exact ⟨w0, w1, w2, w3, w4, w5, rfl⟩
  have hw := fun d (hd : d ∈ tables_1) => atoms_spec (ws := Jvm.Cond.code x code maxLocals ret :: tables_1) hat d (List.mem_cons_of_mem _ hd)
  obtain ⟨i0, ei0⟩ := is_v g2a
  obtain rfl : w0 = (.int i0) := Option.some.inj ei0
  obtain ⟨i1, ei1⟩ := is_v g3a
  obtain rfl : w1 = (.int i1) := Option.some.inj ei1
  obtain ⟨i2, ei2⟩ := isL_v g4a
  obtain rfl : w2 = (.long i2) := Option.some.inj ei2
  obtain ⟨i3, ei3⟩ := isL_v g5a
  obtain rfl : w3 = (.long i3) := Option.some.inj ei3
  obtain ⟨i4, ei4⟩ := isL_v g6a
  obtain rfl : w4 = (.long i4) := Option.some.inj ei4
  obtain ⟨i5, ei5⟩ := isL_v g6b
  obtain rfl : w5 = (.long i5) := Option.some.inj ei5
  obtain ⟨n, o, h1, h2, h3, v, L, rfl, ⟨rfl, rfl⟩, hq⟩ := rm0 l s _ hw tables_1 i0 i1 i2 i3 i4 i5 s.heap (own_safe i0 i1 i2 i3 i4 i5) p e ha hc hk s m _ below hf ((Spec.applies_iff_loose hf).mp happ).1 ⟨rfl, State.Warmed39.refl s, rfl⟩ trivial
  have hv1 := own_law i0 i1 i2 i3 i4 i5
  refine ⟨n, _, h1, h2, h3, hpost _ _ _ _ _ _ ⟨Cond.after_iff.mpr rfl, Cond.after_iff.mpr (eq_i res_at (Term.int_eval (1)) (by rw [hv1]) rfl)⟩ ⟨hq.1, hq.2.1, (hq.2.2.sift fun y hy => nomatch hy).mono (by decide) (by decide)⟩⟩
theorem main_1_1 : Claimed_1_1 := comes_1 fun _ _ _ _ _ _ h hF => ⟨h.1, hF⟩
theorem main_1_2 : Claimed_1_2 := comes_1 fun _ _ _ _ _ _ h hF => ⟨h.2, hF⟩
end Jvm.Pilot.@@N@@
namespace Jvm.Pilot.@@N@@
open Jvm Jvm.ClassFile Sem Op Lib Jvm.Free Jvm.Stand Jvm.Pilot.@@N@@.Jvm.D
/-! MADE BY PROGRAM (witnessworld.py) out of the Statement's table words and the real class files: 16 classes; the members and pool entries that the words name. The judged class is class 1, her method 1. -/
namespace start1
open Jvm.ClassFile
def u (s : String) : CpInfo := .utf8 (stringToUtf16 s)
/-- a pool by its gaps: so many unusable entries, then the entry; so many at the end -/
def gap : Nat → List CpInfo → List CpInfo
  | 0, r => r
  | n + 1, r => .unusable :: gap n r
def poolList (es : List (Nat × CpInfo)) (last : Nat) : List CpInfo := es.foldr (fun e r => gap e.1 (e.2 :: r)) (gap last [])
def pool (es : List (Nat × CpInfo)) (last : Nat) : Array CpInfo := ⟨poolList es last⟩
def fileOf (pool : Array CpInfo) (this : Nat) (attrs : Array Attribute := #[]) (ms : Array MethodInfo := #[]) (fl : Nat := 33) (sup : Nat := 0) (ifs : Array Nat := #[]) (fds : Array FieldInfo := #[]) : ClassFile where
  minorVersion := 0
  majorVersion := 65
  constantPool := pool
  accessFlags := fl
  thisClass := this
  superClass := sup
  interfaces := ifs
  fields := fds
  methods := ms
  attributes := attrs
def plain (name : String) (sup : Option ClassId) : Class where
  name := name
  kind := .ordinary
  loader := none
  accessFlags := 33
  super := sup
  interfaces := #[]
  cf := none
  fields := #[]
  methods := #[]
  instanceTypes := #[]
  staticTypes := #[]
  resolved := #[]
  callSites := []
  init := .initialized
  statics := none
  mirror := none

def pool0 : Array CpInfo := pool [(5, u "<init>"), (0, u "()V"), (1, .class_ 10), (1, u "java/lang/Object")] 113

def k0m0 : Method := { name := "<init>", desc := "()V", sig := { parameters := [], returnType := none }, accessFlags := 1, code := none }
/-- java/lang/Object -/
def k0 : Class := { plain "java/lang/Object" none with
  accessFlags := 33
  interfaces := #[]
  cf := some (fileOf pool0 8 #[] #[{ accessFlags := 1, nameIndex := 5, descriptorIndex := 6, attributes := #[] }] 33 0 #[] #[])
  fields := #[]
  methods := #[k0m0]
  instanceTypes := #[]
  staticTypes := #[]
  resolved := Array.replicate 124 none
  statics := none }

def pool1 : Array CpInfo := pool [(2, .class_ 4), (1, u "java/lang/Object"), (0, u "<init>"), (0, u "()V"), (0, .integer 2147483647), (0, .methodref 9 10), (0, .class_ 11), (0, .nameAndType 12 13), (0, u "com/example/fairtally/fairtally/ledger/csv/SipHashOfPinLaw"), (0, u "cell"), (0, u "(IIIJJJJ)B"), (0, .long 8246050544436514353), (1, .long 8428550223375919101), (1, .long 967288799772626778), (1, .long 9612764727700323885), (1, .long 14927063180398135223), (1, .long 1762690195596617357), (1, .long 14684345499771659214), (1, .long 12322412585038238007), (1, .long 10661697595502699618), (1, .long 11385243752477615280), (1, .long 8817410102741809651), (1, .long 17632488944357322151), (1, .long 8439340791604635131), (1, .long 1507111754042457488), (1, .long 17808300073767596782), (1, .long 11613035633349379557), (1, .long 4551675220716592091), (1, .long 506097522914230528), (1, .long 1084818905618843912), (1, .methodref 53 54), (0, .class_ 55), (0, .nameAndType 56 57), (0, u "com/example/fairtally/fairtally/ledger/csv/SipHash"), (0, u "of"), (0, u "(JJ[BII)J"), (2, u "law"), (0, u "(IIJJJJ)Z")] 7

def k1m0 : Method := { name := "<init>", desc := "()V", sig := { parameters := [], returnType := none }, accessFlags := 1, code := none }
def k1c1 : Code := { maxStack := 14, maxLocals := 16, code := code, exceptionTable := #[], attributes := #[] }
def k1m1 : Method := { name := "law", desc := "(IIJJJJ)Z", sig := { parameters := [.int, .int, .long, .long, .long, .long], returnType := some .boolean }, accessFlags := 9, code := some k1c1 }
def k1c2 : Code := { maxStack := 4, maxLocals := 14, code := method_3_code, exceptionTable := #[], attributes := #[] }
def k1m2 : Method := { name := "cell", desc := "(IIIJJJJ)B", sig := { parameters := [.int, .int, .int, .long, .long, .long, .long], returnType := some .byte }, accessFlags := 10, code := some k1c2 }
/-- com/example/fairtally/fairtally/ledger/csv/SipHashOfPinLaw -/
def k1 : Class := { plain "com/example/fairtally/fairtally/ledger/csv/SipHashOfPinLaw" (some 0) with
  accessFlags := 49
  interfaces := #[]
  cf := some (fileOf pool1 9 #[] #[{ accessFlags := 1, nameIndex := 5, descriptorIndex := 6, attributes := #[] }, { accessFlags := 9, nameIndex := 60, descriptorIndex := 61, attributes := #[] }, { accessFlags := 10, nameIndex := 12, descriptorIndex := 13, attributes := #[] }] 49 2 #[] #[])
  fields := #[]
  methods := #[k1m0, k1m1, k1m2]
  instanceTypes := #[]
  staticTypes := #[]
  resolved := Array.replicate 69 none
  statics := none }

def pool2 : Array CpInfo := pool [(2, .class_ 4), (1, u "java/lang/Object"), (0, u "<init>"), (0, u "()V"), (0, .long 8317987319222330741), (1, .long 7237128888997146477), (1, .long 7816392313619706465), (1, .long 8387220255154660723), (1, .long 255), (1, .methodref 18 19), (0, .class_ 20), (0, .nameAndType 21 22), (0, u "com/example/fairtally/fairtally/ledger/csv/SipHash"), (0, u "littleEndian"), (0, u "([BII)J"), (0, .methodref 24 25), (0, .class_ 26), (0, .nameAndType 27 28), (0, u "java/lang/Long"), (0, u "rotateLeft"), (0, u "(JI)J"), (0, u "COMPRESSION_ROUNDS"), (0, u "I"), (2, u "FINALIZATION_ROUNDS"), (3, u "of"), (0, u "(JJ[BII)J")] 5

def k2m0 : Method := { name := "<init>", desc := "()V", sig := { parameters := [], returnType := none }, accessFlags := 2, code := none }
def k2c1 : Code := { maxStack := 6, maxLocals := 23, code := prog_73_method_2_code, exceptionTable := #[], attributes := #[] }
def k2m1 : Method := { name := "of", desc := "(JJ[BII)J", sig := { parameters := [.long, .long, (.array .byte), .int, .int], returnType := some .long }, accessFlags := 8, code := some k2c1 }
def k2c2 : Code := { maxStack := 5, maxLocals := 6, code := prog_73_method_3_code, exceptionTable := #[], attributes := #[] }
def k2m2 : Method := { name := "littleEndian", desc := "([BII)J", sig := { parameters := [(.array .byte), .int, .int], returnType := some .long }, accessFlags := 10, code := some k2c2 }
/-- com/example/fairtally/fairtally/ledger/csv/SipHash -/
def k2 : Class := { plain "com/example/fairtally/fairtally/ledger/csv/SipHash" (some 0) with
  accessFlags := 32
  interfaces := #[]
  cf := some (fileOf pool2 18 #[] #[{ accessFlags := 2, nameIndex := 5, descriptorIndex := 6, attributes := #[] }, { accessFlags := 8, nameIndex := 37, descriptorIndex := 38, attributes := #[] }, { accessFlags := 10, nameIndex := 21, descriptorIndex := 22, attributes := #[] }] 32 2 #[] #[{ accessFlags := 26, nameIndex := 29, descriptorIndex := 30, attributes := #[] }, { accessFlags := 26, nameIndex := 33, descriptorIndex := 30, attributes := #[] }])
  fields := #[{ name := "COMPRESSION_ROUNDS", type := .int, accessFlags := 26, slot := 0, constantValue := 0 }, { name := "FINALIZATION_ROUNDS", type := .int, accessFlags := 26, slot := 1, constantValue := 0 }]
  methods := #[k2m0, k2m1, k2m2]
  instanceTypes := #[]
  staticTypes := #[.int, .int]
  resolved := Array.replicate 44 none
  statics := none }

def pool3 : Array CpInfo := pool [(1, .class_ 2), (0, u "java/io/Serializable"), (0, .class_ 4), (0, u "java/lang/Object")] 2

/-- java/io/Serializable -/
def k3 : Class := { plain "java/io/Serializable" (some 0) with
  accessFlags := 1537
  interfaces := #[]
  cf := some (fileOf pool3 1 #[] #[] 1537 3 #[] #[])
  fields := #[]
  methods := #[]
  instanceTypes := #[]
  staticTypes := #[]
  resolved := Array.replicate 7 none
  statics := none }

def pool4 : Array CpInfo := pool [(2, .class_ 4), (1, u "java/lang/Object"), (0, u "<init>"), (0, u "()V"), (1, .class_ 10), (1, u "java/lang/Number"), (2, .class_ 14), (0, u "java/io/Serializable"), (0, u "serialVersionUID"), (0, u "J")] 20

def k4m0 : Method := { name := "<init>", desc := "()V", sig := { parameters := [], returnType := none }, accessFlags := 1, code := none }
/-- java/lang/Number -/
def k4 : Class := { plain "java/lang/Number" (some 0) with
  accessFlags := 1057
  interfaces := #[3]
  cf := some (fileOf pool4 8 #[] #[{ accessFlags := 1, nameIndex := 5, descriptorIndex := 6, attributes := #[] }] 1057 2 #[13] #[{ accessFlags := 26, nameIndex := 15, descriptorIndex := 16, attributes := #[] }])
  fields := #[{ name := "serialVersionUID", type := .long, accessFlags := 26, slot := 0, constantValue := 0 }]
  methods := #[k4m0]
  instanceTypes := #[]
  staticTypes := #[.long]
  resolved := Array.replicate 37 none
  statics := none }

def pool5 : Array CpInfo := pool [(1, .class_ 2), (0, u "java/lang/Comparable"), (0, .class_ 4), (0, u "java/lang/Object")] 7

/-- java/lang/Comparable -/
def k5 : Class := { plain "java/lang/Comparable" (some 0) with
  accessFlags := 1537
  interfaces := #[]
  cf := some (fileOf pool5 1 #[] #[] 1537 3 #[] #[])
  fields := #[]
  methods := #[]
  instanceTypes := #[]
  staticTypes := #[]
  resolved := Array.replicate 12 none
  statics := none }

def pool6 : Array CpInfo := pool [(1, .class_ 2), (0, u "java/lang/constant/Constable"), (0, .class_ 4), (0, u "java/lang/Object")] 6

/-- java/lang/constant/Constable -/
def k6 : Class := { plain "java/lang/constant/Constable" (some 0) with
  accessFlags := 1537
  interfaces := #[]
  cf := some (fileOf pool6 1 #[] #[] 1537 3 #[] #[])
  fields := #[]
  methods := #[]
  instanceTypes := #[]
  staticTypes := #[]
  resolved := Array.replicate 11 none
  statics := none }

def pool7 : Array CpInfo := pool [(1, .class_ 2), (0, u "java/lang/constant/ConstantDesc"), (0, .class_ 4), (0, u "java/lang/Object")] 32

/-- java/lang/constant/ConstantDesc -/
def k7 : Class := { plain "java/lang/constant/ConstantDesc" (some 0) with
  accessFlags := 1537
  interfaces := #[]
  cf := some (fileOf pool7 1 #[] #[] 1537 3 #[] #[])
  fields := #[]
  methods := #[]
  instanceTypes := #[]
  staticTypes := #[]
  resolved := Array.replicate 37 none
  statics := none }

def pool8 : Array CpInfo := pool [(1, .class_ 2), (0, u "java/lang/Long"), (232, .class_ 237), (1, u "java/lang/Long$LongCache"), (33, .class_ 272), (0, u "java/lang/Number"), (2, u "value"), (0, u "J"), (84, u "TYPE"), (0, u "Ljava/lang/Class;"), (0, .class_ 364), (0, u "java/lang/Comparable"), (0, .class_ 366), (0, u "java/lang/constant/Constable"), (0, .class_ 368), (0, u "java/lang/constant/ConstantDesc"), (0, u "MIN_VALUE"), (1, u "MAX_VALUE"), (4, u "SIZE"), (0, u "I"), (1, u "BYTES"), (1, u "serialVersionUID"), (95, u "rotateLeft"), (0, u "(JI)J")] 45

def k8c0 : Code := { maxStack := 5, maxLocals := 3, code := jdk_35_method_51_code, exceptionTable := #[], attributes := #[] }
def k8m0 : Method := { name := "rotateLeft", desc := "(JI)J", sig := { parameters := [.long, .int], returnType := some .long }, accessFlags := 9, code := some k8c0 }
/-- java/lang/Long -/
def k8 : Class := { plain "java/lang/Long" (some 4) with
  accessFlags := 49
  interfaces := #[5, 6, 7]
  cf := some (fileOf pool8 1 #[.nestMembers #[235]] #[{ accessFlags := 9, nameIndex := 477, descriptorIndex := 478, attributes := #[] }] 49 271 #[363, 365, 367] #[{ accessFlags := 25, nameIndex := 369, descriptorIndex := 276, attributes := #[] }, { accessFlags := 25, nameIndex := 371, descriptorIndex := 276, attributes := #[] }, { accessFlags := 25, nameIndex := 361, descriptorIndex := 362, attributes := #[] }, { accessFlags := 18, nameIndex := 275, descriptorIndex := 276, attributes := #[] }, { accessFlags := 25, nameIndex := 376, descriptorIndex := 377, attributes := #[] }, { accessFlags := 25, nameIndex := 379, descriptorIndex := 377, attributes := #[] }, { accessFlags := 26, nameIndex := 381, descriptorIndex := 276, attributes := #[] }])
  fields := #[{ name := "MIN_VALUE", type := .long, accessFlags := 25, slot := 0, constantValue := 0 }, { name := "MAX_VALUE", type := .long, accessFlags := 25, slot := 1, constantValue := 0 }, { name := "TYPE", type := (.object "java/lang/Class"), accessFlags := 25, slot := 2, constantValue := 0 }, { name := "value", type := .long, accessFlags := 18, slot := 0, constantValue := 0 }, { name := "SIZE", type := .int, accessFlags := 25, slot := 3, constantValue := 0 }, { name := "BYTES", type := .int, accessFlags := 25, slot := 4, constantValue := 0 }, { name := "serialVersionUID", type := .long, accessFlags := 26, slot := 5, constantValue := 0 }]
  methods := #[k8m0]
  instanceTypes := #[.long]
  staticTypes := #[.long, .long, (.object "java/lang/Class"), .int, .int, .long]
  resolved := Array.replicate 524 none
  statics := none }

def pool9 : Array CpInfo := pool [(1, u "java/lang/Cloneable"), (0, .class_ 1), (0, u "java/lang/Object"), (0, .class_ 3)] 3

/-- java/lang/Cloneable -/
def k9 : Class := { plain "java/lang/Cloneable" (some 0) with
  accessFlags := 1537
  interfaces := #[]
  cf := some (fileOf pool9 2 #[] #[] 1537 4 #[] #[])
  fields := #[]
  methods := #[]
  instanceTypes := #[]
  staticTypes := #[]
  resolved := Array.replicate 8 none
  statics := none }

/-- the primitive byte -/
def k10 : Class := { plain "byte" none with kind := .primitive 'B', accessFlags := 0x411 }
/-- [B -/
def k11 : Class := { plain "[B" (some 0) with kind := .array 10 .byte, interfaces := #[9, 3], accessFlags := 1041 }

/-- the primitive int -/
def k12 : Class := { plain "int" none with kind := .primitive 'I', accessFlags := 0x411 }
/-- [I -/
def k13 : Class := { plain "[I" (some 0) with kind := .array 12 .int, interfaces := #[9, 3], accessFlags := 1041 }

/-- the primitive long -/
def k14 : Class := { plain "long" none with kind := .primitive 'J', accessFlags := 0x411 }
/-- [J -/
def k15 : Class := { plain "[J" (some 0) with kind := .array 14 .long, interfaces := #[9, 3], accessFlags := 1041 }

def heap : Heap := #[]
def classes : Array Class := #[k0, k1, k2, k3, k4, k5, k6, k7, k8, k9, k10, k11, k12, k13, k14, k15]
def interned : List (Array UInt16 × Addr) := []
def slotsUsed : Nat := 0
def theMethod : MethodId := ⟨1, 1⟩
def args0 : Array Value := #[.int 5, .int 5, .long 5, .long 5, .long 5, .long 5]
def aboutOver (below : List Frame) : State where
  vm := { classes := classes, interned := interned.toArray }
  heap := heap
  slotsUsed := slotsUsed
  threads := #[{ frames := .invoking theMethod args0 :: below }]
def below0 : List Frame := [.native { method := ⟨0, 0⟩, args := #[] }]
def about1 : State := aboutOver below0
def p0 : Program := .bare "" "" ""
def e0 : Env := launch0.env 0 0 0
theorem w_frames : about1.frames = Frame.invoking theMethod args0 :: below0 := rfl
set_option maxRecDepth 65536 in
theorem w_args : argsFit about1.vm theMethod args0 = true := by decide +kernel
set_option maxRecDepth 65536 in
theorem w_heap : heapFits about1 = true := by decide +kernel
set_option maxRecDepth 65536 in
theorem w_runnable : about1.curStatus? = some .runnable := by decide +kernel
set_option maxRecDepth 65536 in
theorem w_alone : about1.alone = true := by decide +kernel
set_option maxRecDepth 65536 in
theorem w_named : about1.methodNamed? x = some theMethod := by decide +kernel
set_option maxRecDepth 65536 in
theorem w_hears : about1.hears theMethod below0 = true := by decide +kernel
set_option maxRecDepth 65536 in
theorem w_ripe : about1.ripe theMethod args0 below0 = true := by decide +kernel
theorem w_running : about1.status = .running := rfl
set_option maxRecDepth 65536 in
theorem w_room : about1.hasRoom e0.platform room_1 = true :=
  launch0.hasRoom_least _ room_1 (by decide +kernel) (by decide +kernel) (by decide +kernel) (by decide +kernel) (by decide +kernel) (by decide +kernel)
theorem allAtoms_all (ts : List Jvm.Cond) (a : Array Jvm.Value) (st : Jvm.State) : (allAtoms ts).before a st = ts.all (fun c => c.before a st) := by
  induction ts with
  | nil => rfl
  | cons c t ih =>
    show (Jvm.Cond.and c (allAtoms t)).before a st = _
    rw [Jvm.Cond.before_and, ih, List.all_cons]
def words1 : List Jvm.Cond := Jvm.Cond.code x code maxLocals ret :: tables_1
/-- a 'code' word, met by the world's own term for the bytes: nothing is compared byte by byte -/
theorem code_word {y : MethodName} {bytes : ByteArray} {mx : Nat} {rt : Option FieldType} {a : Array Value} {s : State} {m : MethodId} {meth : Method} {c : Code} (h1 : s.methodNamed? y = some m) (h2 : s.vm.method? m = some meth) (h3 : meth.code = some c) (h4 : c.code = bytes)
    (h5 : (c.maxLocals == mx && c.exceptionTable.isEmpty && decide (c.maxStack ≤ mostOperands) && decide (meth.sig.returnType = rt) && !meth.locks && decide (parseMethodDescriptor y.desc = some meth.sig)) = true) : (Jvm.Cond.code y bytes mx rt).before a s = true := by
  simp only [Bool.and_eq_true, beq_iff_eq, Bool.not_eq_true', decide_eq_true_eq] at h5
  obtain ⟨⟨⟨⟨⟨g1, g2⟩, g3⟩, g4⟩, g5⟩, g6⟩ := h5
  simp [Cond.before, Cond.holds, Cond.value, h1, h2, h3, h4, g1, g2, g3, g4, g5, g6]
def isCode : Jvm.Cond → Bool
  | .code _ _ _ _ => true
  | _ => false
theorem all_split {L : List Jvm.Cond} {P : Jvm.Cond → Bool} (h1 : L.all (fun c => isCode c || P c) = true) (h2 : ∀ c ∈ L.filter isCode, P c = true) : L.all P = true := by
  refine List.all_eq_true.mpr fun c hc => ?_
  have h := List.all_eq_true.mp h1 c hc
  rcases Bool.eq_false_or_eq_true (isCode c) with hi | hi
  · exact h2 c (List.mem_filter.mpr ⟨hc, hi⟩)
  · simpa [hi] using h
set_option maxRecDepth 65536 in
theorem w_c0 : (Jvm.Cond.code x code maxLocals ret).before args0 about1 = true := code_word (m := ⟨1, 1⟩) (meth := k1m1) (c := k1c1) (by decide +kernel) rfl rfl rfl (by decide +kernel)
set_option maxRecDepth 65536 in
theorem w_c1 : (Jvm.Cond.code ({ cls := "com/example/fairtally/fairtally/ledger/csv/SipHashOfPinLaw", name := "cell", desc := "(IIIJJJJ)B" } : Jvm.MethodName) method_3_code (14 : Nat) (Option.some Jvm.ClassFile.FieldType.byte)).before args0 about1 = true := code_word (m := ⟨1, 2⟩) (meth := k1m2) (c := k1c2) (by decide +kernel) rfl rfl rfl (by decide +kernel)
set_option maxRecDepth 65536 in
theorem w_c2 : (Jvm.Cond.code ({ cls := "com/example/fairtally/fairtally/ledger/csv/SipHash", name := "of", desc := "(JJ[BII)J" } : Jvm.MethodName) prog_73_method_2_code (23 : Nat) (Option.some Jvm.ClassFile.FieldType.long)).before args0 about1 = true := code_word (m := ⟨2, 1⟩) (meth := k2m1) (c := k2c1) (by decide +kernel) rfl rfl rfl (by decide +kernel)
set_option maxRecDepth 65536 in
theorem w_c3 : (Jvm.Cond.code ({ cls := "com/example/fairtally/fairtally/ledger/csv/SipHash", name := "littleEndian", desc := "([BII)J" } : Jvm.MethodName) prog_73_method_3_code (6 : Nat) (Option.some Jvm.ClassFile.FieldType.long)).before args0 about1 = true := code_word (m := ⟨2, 2⟩) (meth := k2m2) (c := k2c2) (by decide +kernel) rfl rfl rfl (by decide +kernel)
set_option maxRecDepth 65536 in
theorem w_c4 : (Jvm.Cond.code ({ cls := "java/lang/Long", name := "rotateLeft", desc := "(JI)J" } : Jvm.MethodName) jdk_35_method_51_code (3 : Nat) (Option.some Jvm.ClassFile.FieldType.long)).before args0 about1 = true := code_word (m := ⟨8, 0⟩) (meth := k8m0) (c := k8c0) (by decide +kernel) rfl rfl rfl (by decide +kernel)
def codes1 : List Jvm.Cond := [Jvm.Cond.code x code maxLocals ret, Jvm.Cond.code ({ cls := "com/example/fairtally/fairtally/ledger/csv/SipHashOfPinLaw", name := "cell", desc := "(IIIJJJJ)B" } : Jvm.MethodName) method_3_code (14 : Nat) (Option.some Jvm.ClassFile.FieldType.byte), Jvm.Cond.code ({ cls := "com/example/fairtally/fairtally/ledger/csv/SipHash", name := "of", desc := "(JJ[BII)J" } : Jvm.MethodName) prog_73_method_2_code (23 : Nat) (Option.some Jvm.ClassFile.FieldType.long), Jvm.Cond.code ({ cls := "com/example/fairtally/fairtally/ledger/csv/SipHash", name := "littleEndian", desc := "([BII)J" } : Jvm.MethodName) prog_73_method_3_code (6 : Nat) (Option.some Jvm.ClassFile.FieldType.long), Jvm.Cond.code ({ cls := "java/lang/Long", name := "rotateLeft", desc := "(JI)J" } : Jvm.MethodName) jdk_35_method_51_code (3 : Nat) (Option.some Jvm.ClassFile.FieldType.long)]
set_option maxRecDepth 65536 in
theorem codes_eq : words1.filter isCode = codes1 := rfl
theorem w_codes : ∀ c ∈ words1.filter isCode, c.before args0 about1 = true := by
  rw [codes_eq]
  intro c hc
  simp only [codes1, List.mem_cons, List.not_mem_nil, or_false] at hc
  rcases hc with rfl | rfl | rfl | rfl | rfl
  · exact w_c0
  · exact w_c1
  · exact w_c2
  · exact w_c3
  · exact w_c4
set_option maxRecDepth 65536 in
theorem w_t1 : (words1.take 24).all (fun c => isCode c || c.before args0 about1) = true := by decide +kernel
set_option maxRecDepth 65536 in
theorem w_t2 : (words1.drop 24).all (fun c => isCode c || c.before args0 about1) = true := by decide +kernel
theorem w_tables : (allAtoms (Jvm.Cond.code x code maxLocals ret :: tables_1)).before args0 about1 = true := by
  rw [allAtoms_all]
  show words1.all (fun c => c.before args0 about1) = true
  refine all_split ?_ w_codes
  rw [← List.take_append_drop 24 words1, List.all_append, w_t1, w_t2]
  rfl
set_option maxRecDepth 65536 in
theorem w_case : (Jvm.Cond.and given_1 narrow_1).before args0 about1 = true := by decide +kernel
theorem w_applies : (headSpec (Jvm.Cond.code x code maxLocals ret :: tables_1) room_1).applies x e0.platform about1 = true :=
  (Spec.applies_iff w_frames).mpr ⟨w_running, w_runnable, w_alone, w_named, w_hears, w_ripe, w_room, w_tables⟩
theorem atStart : AtStart classFile x code maxLocals ret World_1 tables_1 room_1 Calls_1 rest_1 Pre_1 launch0 p0 e0 about1 theMethod args0 below0 :=
  ⟨lists_1, trivial, launch0.admits_env _ _ _, launch0.least_env, fairChoices_fair.cas, fairChoices_fair.clock, w_frames, w_args, w_heap, w_applies, trivial, trivial, w_case⟩
end start1
theorem witness_1 : WitnessClaimed_1 := ⟨start1.p0, start1.e0, start1.about1, start1.theMethod, start1.args0, start1.below0, start1.atStart⟩
end Jvm.Pilot.@@N@@
