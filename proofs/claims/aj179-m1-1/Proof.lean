import JvmDerived
import JvmDerived.Pilot.@@N@@Statement
import JvmDerived.Pilot.@@N@@Code
set_option linter.unusedVariables false
set_option linter.unusedSimpArgs false
namespace Jvm.RoadKit
open Sem ClassFile Op Lib Jvm.Stand Jvm.Free Jvm.LawKit
section New
variable {p : Program} {l : Launch} {e : Env} {R : Room} {s : State} {m : MethodId} {args : Array Value} {below : List Frame} {meth : Method} {c : Code} {T : State} {locs : List Loc} {cells slots : Nat}
theorem retI (X : Stand p l e R s m args below meth c T locs cells slots) (hx : p.tables.exec = Jvm.exec) {pc : Nat} {Ls : Array Slot} {z : Int32} {rest : List Value} (hret : meth.sig.returnType = some .int) (hd : decode c.code pc = .ok (.ireturn, 1)) {fs : List Frame}
    (hl : ∀ (f : JFrame) (acts : List Action), f.method = m → f.locked = none → f.entered = [] → (doReturn e (T.setTop f) acts (some (.int z))).1 = T.setFrames fs) : Steps p.tables e below (T.setTop (mkF m pc Ls (.int z :: rest))) (T.setFrames fs) := by
  have hm' : T.vm.method? m = some meth := X.method'
  have hn : narrow .int (.int z) = .int z := rfl
  show Steps p.tables e below (T.setTop { method := m, pc := pc, locals := Ls, stack := _ :: rest, locked := none }) _
  jvm_step X.here [X.here.top, hx, hd, hm', hret, hn]
  first | (intro acts; rw [hl _ acts rfl rfl rfl]) | rw [hl _ _ rfl rfl rfl]
  exact Steps.refl _
end New
end Jvm.RoadKit
namespace Jvm.Pilot.@@N@@
open Jvm Jvm.ClassFile Sem Op Lib Jvm.Free Jvm.Stand Jvm.LawKit Jvm.RoadKit Bundle Jvm.Pilot.@@N@@.Jvm.D
/-! OWN KIT: a run that comes to an end, one law an instruction, arrays as lists (written once, pasted by wip/gen/lawgen.py) -/
section OwnKit
variable {p : Program} {l : Launch} {e : Env} {R : Room} {s : State} {m : MethodId} {args : Array Value} {below : List Frame} {meth : Method} {c : Code} {T T' : State} {locs : List Loc} {cells slots : Nat} {Z : State} {a0 : Array Value} {h h' : Heap}
variable {Q : Outcome → State → Prop} {K : Option Value → Heap → List Loc → Prop} {cc ss : Nat}
variable {pc pc' pc1 pc2 : Nat} {Ls l' : Array Slot} {rest : List Value} {x y : Int32} {u w : Int64}
/-- from T, with g on top, the run comes to an end of which Q holds -/
def own_Go (p : Program) (e : Env) (below : List Frame) (Q : Outcome → State → Prop) (T : State) (g : JFrame) : Prop :=
  ∃ s₂ o, Steps p.tables e below (T.setTop g) s₂ ∧ s₂.status = .running ∧ Ended s₂ below o ∧ Q o s₂
/-- what a body's end says: it returned, K holds of the value, the heap and the old places written -/
def own_Q (s : State) (K : Option Value → Heap → List Loc → Prop) (cc ss : Nat) : Outcome → State → Prop := fun o t => ∃ v L, o = .returned v ∧ K v t.heap L ∧ FrameEnd s o t L cc ss
/-- what stands fast in one body -/
def own_Cx (p : Program) (s : State) (m : MethodId) (meth : Method) (c : Code) (Z : State) (a0 : Array Value) (bytes : ByteArray) (ml : Nat) (own : String) (rt : Option FieldType) (nm : String) : Prop :=
  p.tables.exec = Jvm.exec ∧ Z.Warmed39 s.vm ∧ (∀ d ∈ tables_1, d.before a0 Z = true) ∧ c.code = bytes ∧ c.maxLocals = ml ∧ s.vm.findClass own = some m.cls ∧ meth.sig.returnType = rt ∧ meth.locks = false ∧ meth.name = nm
theorem own_go {g g' : JFrame} (st : ∀ t, Steps p.tables e below (T'.setTop g') t → Steps p.tables e below (T.setTop g) t) (k : own_Go p e below Q T' g') : own_Go p e below Q T g := by
  obtain ⟨s₂, o, h1, h2⟩ := k
  exact ⟨s₂, o, st _ h1, h2⟩
theorem o_iloadN (X : Stand p l e R s m args below meth c T locs cells slots) (hx : p.tables.exec = Jvm.exec) {k : Fin 4} {v : Int32} (hd : decode c.code pc = .ok (.iload_n k, 1)) (hl : Ls[k.val]? = some (.val (.int v))) (hp : pc + 1 = pc') (q : own_Go p e below Q T (mkF m pc' Ls (.int v :: rest))) : own_Go p e below Q T (mkF m pc Ls rest) := by
  subst hp; exact own_go (fun t k' => XS.iloadN X.here hx rfl hd hl k') q
theorem o_iload (X : Stand p l e R s m args below meth c T locs cells slots) (hx : p.tables.exec = Jvm.exec) {k : Nat} {v : Int32} (hd : decode c.code pc = .ok (.iload k, 2)) (hl : Ls[k]? = some (.val (.int v))) (hp : pc + 2 = pc') (q : own_Go p e below Q T (mkF m pc' Ls (.int v :: rest))) : own_Go p e below Q T (mkF m pc Ls rest) := by
  subst hp; exact own_go (fun t k' => XS.iload X.here hx rfl hd hl k') q
theorem o_lloadN (X : Stand p l e R s m args below meth c T locs cells slots) (hx : p.tables.exec = Jvm.exec) {k : Fin 4} {v : Int64} (hd : decode c.code pc = .ok (.lload_n k, 1)) (hl : Ls[k.val]? = some (.val (.long v))) (hp : pc + 1 = pc') (q : own_Go p e below Q T (mkF m pc' Ls (.long v :: rest))) : own_Go p e below Q T (mkF m pc Ls rest) := by
  subst hp; exact own_go (fun t k' => XS.lloadN X.here hx rfl hd hl k') q
theorem o_lload (X : Stand p l e R s m args below meth c T locs cells slots) (hx : p.tables.exec = Jvm.exec) {k : Nat} {v : Int64} (hd : decode c.code pc = .ok (.lload k, 2)) (hl : Ls[k]? = some (.val (.long v))) (hp : pc + 2 = pc') (q : own_Go p e below Q T (mkF m pc' Ls (.long v :: rest))) : own_Go p e below Q T (mkF m pc Ls rest) := by
  subst hp; exact own_go (fun t k' => XS.lload X.here hx rfl hd hl k') q
theorem o_aloadN (X : Stand p l e R s m args below meth c T locs cells slots) (hx : p.tables.exec = Jvm.exec) {k : Fin 4} {v : Value} (hd : decode c.code pc = .ok (.aload_n k, 1)) (hl : Ls[k.val]? = some (.val v)) (hv : v.isRef = true) (hp : pc + 1 = pc') (q : own_Go p e below Q T (mkF m pc' Ls (v :: rest))) : own_Go p e below Q T (mkF m pc Ls rest) := by
  subst hp; exact own_go (fun t k' => XS.aloadN X.here hx rfl hd hl hv k') q
theorem o_aload (X : Stand p l e R s m args below meth c T locs cells slots) (hx : p.tables.exec = Jvm.exec) {k : Nat} {v : Value} (hd : decode c.code pc = .ok (.aload k, 2)) (hl : Ls[k]? = some (.val v)) (hv : v.isRef = true) (hp : pc + 2 = pc') (q : own_Go p e below Q T (mkF m pc' Ls (v :: rest))) : own_Go p e below Q T (mkF m pc Ls rest) := by
  subst hp; exact own_go (fun t k' => XS.aload X.here hx rfl hd hl hv k') q
theorem o_istoreN (X : Stand p l e R s m args below meth c T locs cells slots) (hx : p.tables.exec = Jvm.exec) {k : Fin 4} (hd : decode c.code pc = .ok (.istore_n k, 1)) (hl : storeLocals Ls k.val (.int x) = some l') (hp : pc + 1 = pc') (q : own_Go p e below Q T (mkF m pc' l' rest)) : own_Go p e below Q T (mkF m pc Ls (.int x :: rest)) := by
  subst hp; exact own_go (fun t k' => XS.istoreN X.here hx rfl hd rfl hl k') q
theorem o_istore (X : Stand p l e R s m args below meth c T locs cells slots) (hx : p.tables.exec = Jvm.exec) {k : Nat} (hd : decode c.code pc = .ok (.istore k, 2)) (hl : storeLocals Ls k (.int x) = some l') (hp : pc + 2 = pc') (q : own_Go p e below Q T (mkF m pc' l' rest)) : own_Go p e below Q T (mkF m pc Ls (.int x :: rest)) := by
  subst hp; exact own_go (fun t k' => XS.istore X.here hx rfl hd rfl hl k') q
theorem o_lstoreN (X : Stand p l e R s m args below meth c T locs cells slots) (hx : p.tables.exec = Jvm.exec) {k : Fin 4} (hd : decode c.code pc = .ok (.lstore_n k, 1)) (hl : storeLocals Ls k.val (.long u) = some l') (hp : pc + 1 = pc') (q : own_Go p e below Q T (mkF m pc' l' rest)) : own_Go p e below Q T (mkF m pc Ls (.long u :: rest)) := by
  subst hp; exact own_go (fun t k' => XS.lstoreN X.here hx rfl hd rfl hl k') q
theorem o_lstore (X : Stand p l e R s m args below meth c T locs cells slots) (hx : p.tables.exec = Jvm.exec) {k : Nat} (hd : decode c.code pc = .ok (.lstore k, 2)) (hl : storeLocals Ls k (.long u) = some l') (hp : pc + 2 = pc') (q : own_Go p e below Q T (mkF m pc' l' rest)) : own_Go p e below Q T (mkF m pc Ls (.long u :: rest)) := by
  subst hp; exact own_go (fun t k' => XS.lstore X.here hx rfl hd rfl hl k') q
theorem o_astoreN (X : Stand p l e R s m args below meth c T locs cells slots) (hx : p.tables.exec = Jvm.exec) {k : Fin 4} {v : Value} (hd : decode c.code pc = .ok (.astore_n k, 1)) (hv : v.isRef = true) (hl : storeLocals Ls k.val v = some l') (hp : pc + 1 = pc') (q : own_Go p e below Q T (mkF m pc' l' rest)) : own_Go p e below Q T (mkF m pc Ls (v :: rest)) := by
  subst hp; exact own_go (fun t k' => XS.astoreN X.here hx rfl hd rfl hv hl k') q
theorem o_astore (X : Stand p l e R s m args below meth c T locs cells slots) (hx : p.tables.exec = Jvm.exec) {k : Nat} {v : Value} (hd : decode c.code pc = .ok (.astore k, 2)) (hv : v.isRef = true) (hl : storeLocals Ls k v = some l') (hp : pc + 2 = pc') (q : own_Go p e below Q T (mkF m pc' l' rest)) : own_Go p e below Q T (mkF m pc Ls (v :: rest)) := by
  subst hp; exact own_go (fun t k' => XS.astore X.here hx rfl hd rfl hv hl k') q
theorem o_iconst (X : Stand p l e R s m args below meth c T locs cells slots) (hx : p.tables.exec = Jvm.exec) {i : Int} (hd : decode c.code pc = .ok (.iconst i, 1)) (hv : Int32.ofInt i = x) (hp : pc + 1 = pc') (q : own_Go p e below Q T (mkF m pc' Ls (.int x :: rest))) : own_Go p e below Q T (mkF m pc Ls rest) := by
  subst hp hv; exact own_go (fun t k' => XS.iconst X.here hx rfl hd k') q
theorem o_bipush (X : Stand p l e R s m args below meth c T locs cells slots) (hx : p.tables.exec = Jvm.exec) {i : Int} (hd : decode c.code pc = .ok (.bipush i, 2)) (hv : (Int8.ofInt i).toInt32 = x) (hp : pc + 2 = pc') (q : own_Go p e below Q T (mkF m pc' Ls (.int x :: rest))) : own_Go p e below Q T (mkF m pc Ls rest) := by
  subst hp hv; exact own_go (fun t k' => XS.bipush X.here hx rfl hd k') q
theorem o_sipush (X : Stand p l e R s m args below meth c T locs cells slots) (hx : p.tables.exec = Jvm.exec) {i : Int} (hd : decode c.code pc = .ok (.sipush i, 3)) (hv : (Int16.ofInt i).toInt32 = x) (hp : pc + 3 = pc') (q : own_Go p e below Q T (mkF m pc' Ls (.int x :: rest))) : own_Go p e below Q T (mkF m pc Ls rest) := by
  subst hp hv; exact own_go (fun t k' => XS.sipush X.here hx rfl hd k') q
theorem o_lconst (X : Stand p l e R s m args below meth c T locs cells slots) (hx : p.tables.exec = Jvm.exec) {k : Fin 2} (hd : decode c.code pc = .ok (.lconst k, 1)) (hv : Int64.ofNat k = u) (hp : pc + 1 = pc') (q : own_Go p e below Q T (mkF m pc' Ls (.long u :: rest))) : own_Go p e below Q T (mkF m pc Ls rest) := by
  subst hp hv; exact own_go (fun t k' => XS.lconst X.here hx rfl hd k') q
theorem o_ldcI (X : Stand p l e R s m args below meth c T locs cells slots) (hx : p.tables.exec = Jvm.exec) (hZ : Z.Warmed39 s.vm) {own : String} {index : Nat} (hown : s.vm.findClass own = some m.cls) (w1 : (Cond.constant own index x).before a0 Z = true) (hd : decode c.code pc = .ok (.ldc index, 2)) (hp : pc + 2 = pc') (q : own_Go p e below Q T (mkF m pc' Ls (.int x :: rest))) : own_Go p e below Q T (mkF m pc Ls rest) := by
  subst hp; exact own_go (fun t k' => X.ldcInt hx hown (mvT hZ w1) (g := mkF m pc Ls rest) rfl hd t k') q
theorem o_ldcL (X : Stand p l e R s m args below meth c T locs cells slots) (hx : p.tables.exec = Jvm.exec) (hZ : Z.Warmed39 s.vm) {own : String} {index : Nat} (hown : s.vm.findClass own = some m.cls) (w1 : (Cond.constantLong own index u).before a0 Z = true) (hd : decode c.code pc = .ok (.ldc2_w index, 3)) (hp : pc + 3 = pc') (q : own_Go p e below Q T (mkF m pc' Ls (.long u :: rest))) : own_Go p e below Q T (mkF m pc Ls rest) := by
  subst hp; exact own_go (fun t k' => X.ldc2Long hx hown (mvT hZ w1) (g := mkF m pc Ls rest) rfl hd t k') q
theorem o_iadd (X : Stand p l e R s m args below meth c T locs cells slots) (hx : p.tables.exec = Jvm.exec) (hd : decode c.code pc = .ok (.iadd, 1)) (hp : pc + 1 = pc') {z : Int32} (hz : x + y = z) (q : own_Go p e below Q T (mkF m pc' Ls (.int z :: rest))) : own_Go p e below Q T (mkF m pc Ls (.int y :: .int x :: rest)) := by
  subst hp hz; exact own_go (fun t k' => XS.iadd X.here hx rfl hd rfl k') q
theorem o_isub (X : Stand p l e R s m args below meth c T locs cells slots) (hx : p.tables.exec = Jvm.exec) (hd : decode c.code pc = .ok (.isub, 1)) (hp : pc + 1 = pc') {z : Int32} (hz : x - y = z) (q : own_Go p e below Q T (mkF m pc' Ls (.int z :: rest))) : own_Go p e below Q T (mkF m pc Ls (.int y :: .int x :: rest)) := by
  subst hp hz; exact own_go (fun t k' => XS.isub X.here hx rfl hd rfl k') q
theorem o_imul (X : Stand p l e R s m args below meth c T locs cells slots) (hx : p.tables.exec = Jvm.exec) (hd : decode c.code pc = .ok (.imul, 1)) (hp : pc + 1 = pc') {z : Int32} (hz : x * y = z) (q : own_Go p e below Q T (mkF m pc' Ls (.int z :: rest))) : own_Go p e below Q T (mkF m pc Ls (.int y :: .int x :: rest)) := by
  subst hp hz; exact own_go (fun t k' => XS.imul X.here hx rfl hd rfl k') q
theorem o_iand (X : Stand p l e R s m args below meth c T locs cells slots) (hx : p.tables.exec = Jvm.exec) (hd : decode c.code pc = .ok (.iand, 1)) (hp : pc + 1 = pc') {z : Int32} (hz : x &&& y = z) (q : own_Go p e below Q T (mkF m pc' Ls (.int z :: rest))) : own_Go p e below Q T (mkF m pc Ls (.int y :: .int x :: rest)) := by
  subst hp hz; exact own_go (fun t k' => XS.iand X.here hx rfl hd rfl k') q
theorem o_ior (X : Stand p l e R s m args below meth c T locs cells slots) (hx : p.tables.exec = Jvm.exec) (hd : decode c.code pc = .ok (.ior, 1)) (hp : pc + 1 = pc') {z : Int32} (hz : x ||| y = z) (q : own_Go p e below Q T (mkF m pc' Ls (.int z :: rest))) : own_Go p e below Q T (mkF m pc Ls (.int y :: .int x :: rest)) := by
  subst hp hz; exact own_go (fun t k' => XS.ior X.here hx rfl hd rfl k') q
theorem o_ixor (X : Stand p l e R s m args below meth c T locs cells slots) (hx : p.tables.exec = Jvm.exec) (hd : decode c.code pc = .ok (.ixor, 1)) (hp : pc + 1 = pc') {z : Int32} (hz : x ^^^ y = z) (q : own_Go p e below Q T (mkF m pc' Ls (.int z :: rest))) : own_Go p e below Q T (mkF m pc Ls (.int y :: .int x :: rest)) := by
  subst hp hz; exact own_go (fun t k' => XS.ixor X.here hx rfl hd rfl k') q
/-- Java's shifts, remainders: under names of our own -/
def own_shl (x y : Int32) : Int32 := x <<< (y &&& 31)
def own_shr (x y : Int32) : Int32 := x >>> (y &&& 31)
def own_ushr (x y : Int32) : Int32 := (x.toUInt32 >>> (y &&& 31).toUInt32).toInt32
def own_rem (x y : Int32) : Int32 := x - (x / y) * y
def own_lshl (u : Int64) (y : Int32) : Int64 := u <<< (y &&& 0x3f).toInt64
def own_lushr (u : Int64) (y : Int32) : Int64 := (u.toUInt64 >>> (y &&& 0x3f).toInt64.toUInt64).toInt64
def own_lrem (u w : Int64) : Int64 := u - (u / w) * w
theorem o_ishl (X : Stand p l e R s m args below meth c T locs cells slots) (hx : p.tables.exec = Jvm.exec) (hd : decode c.code pc = .ok (.ishl, 1)) (hp : pc + 1 = pc') {z : Int32} (hz : own_shl x y = z) (q : own_Go p e below Q T (mkF m pc' Ls (.int z :: rest))) : own_Go p e below Q T (mkF m pc Ls (.int y :: .int x :: rest)) := by
  subst hp hz; exact own_go (fun t k' => XS.ishl X.here hx rfl hd rfl k') q
theorem o_ishr (X : Stand p l e R s m args below meth c T locs cells slots) (hx : p.tables.exec = Jvm.exec) (hd : decode c.code pc = .ok (.ishr, 1)) (hp : pc + 1 = pc') {z : Int32} (hz : own_shr x y = z) (q : own_Go p e below Q T (mkF m pc' Ls (.int z :: rest))) : own_Go p e below Q T (mkF m pc Ls (.int y :: .int x :: rest)) := by
  subst hp hz; exact own_go (fun t k' => XS.ishr X.here hx rfl hd rfl k') q
theorem o_iushr (X : Stand p l e R s m args below meth c T locs cells slots) (hx : p.tables.exec = Jvm.exec) (hd : decode c.code pc = .ok (.iushr, 1)) (hp : pc + 1 = pc') {z : Int32} (hz : own_ushr x y = z) (q : own_Go p e below Q T (mkF m pc' Ls (.int z :: rest))) : own_Go p e below Q T (mkF m pc Ls (.int y :: .int x :: rest)) := by
  subst hp hz; exact own_go (fun t k' => XS.iushr X.here hx rfl hd rfl k') q
theorem o_irem (X : Stand p l e R s m args below meth c T locs cells slots) (hx : p.tables.exec = Jvm.exec) (hd : decode c.code pc = .ok (.irem, 1)) (hp : pc + 1 = pc') (hy : y ≠ 0) {z : Int32} (hz : own_rem x y = z) (q : own_Go p e below Q T (mkF m pc' Ls (.int z :: rest))) : own_Go p e below Q T (mkF m pc Ls (.int y :: .int x :: rest)) := by
  subst hp hz; exact own_go (fun t k' => XS.irem X.here hx rfl hd rfl hy k') q
theorem o_idiv (X : Stand p l e R s m args below meth c T locs cells slots) (hx : p.tables.exec = Jvm.exec) (hd : decode c.code pc = .ok (.idiv, 1)) (hp : pc + 1 = pc') (hy : y ≠ 0) {z : Int32} (hz : x / y = z) (q : own_Go p e below Q T (mkF m pc' Ls (.int z :: rest))) : own_Go p e below Q T (mkF m pc Ls (.int y :: .int x :: rest)) := by
  subst hp hz; exact own_go (fun t k' => XS.idiv X.here hx rfl hd rfl hy k') q
theorem o_ineg (X : Stand p l e R s m args below meth c T locs cells slots) (hx : p.tables.exec = Jvm.exec) (hd : decode c.code pc = .ok (.ineg, 1)) (hp : pc + 1 = pc') {z : Int32} (hz : -x = z) (q : own_Go p e below Q T (mkF m pc' Ls (.int z :: rest))) : own_Go p e below Q T (mkF m pc Ls (.int x :: rest)) := by
  subst hp hz; exact own_go (fun t k' => XS.ineg X.here hx rfl hd rfl k') q
theorem o_ladd (X : Stand p l e R s m args below meth c T locs cells slots) (hx : p.tables.exec = Jvm.exec) (hd : decode c.code pc = .ok (.ladd, 1)) (hp : pc + 1 = pc') {z : Int64} (hz : u + w = z) (q : own_Go p e below Q T (mkF m pc' Ls (.long z :: rest))) : own_Go p e below Q T (mkF m pc Ls (.long w :: .long u :: rest)) := by
  subst hp hz; exact own_go (fun t k' => XS.ladd X.here hx rfl hd rfl k') q
theorem o_lsub (X : Stand p l e R s m args below meth c T locs cells slots) (hx : p.tables.exec = Jvm.exec) (hd : decode c.code pc = .ok (.lsub, 1)) (hp : pc + 1 = pc') {z : Int64} (hz : u - w = z) (q : own_Go p e below Q T (mkF m pc' Ls (.long z :: rest))) : own_Go p e below Q T (mkF m pc Ls (.long w :: .long u :: rest)) := by
  subst hp hz; exact own_go (fun t k' => XS.lsub X.here hx rfl hd rfl k') q
theorem o_lmul (X : Stand p l e R s m args below meth c T locs cells slots) (hx : p.tables.exec = Jvm.exec) (hd : decode c.code pc = .ok (.lmul, 1)) (hp : pc + 1 = pc') {z : Int64} (hz : u * w = z) (q : own_Go p e below Q T (mkF m pc' Ls (.long z :: rest))) : own_Go p e below Q T (mkF m pc Ls (.long w :: .long u :: rest)) := by
  subst hp hz; exact own_go (fun t k' => XS.lmul X.here hx rfl hd rfl k') q
theorem o_land (X : Stand p l e R s m args below meth c T locs cells slots) (hx : p.tables.exec = Jvm.exec) (hd : decode c.code pc = .ok (.land, 1)) (hp : pc + 1 = pc') {z : Int64} (hz : u &&& w = z) (q : own_Go p e below Q T (mkF m pc' Ls (.long z :: rest))) : own_Go p e below Q T (mkF m pc Ls (.long w :: .long u :: rest)) := by
  subst hp hz; exact own_go (fun t k' => XS.land X.here hx rfl hd rfl k') q
theorem o_lor (X : Stand p l e R s m args below meth c T locs cells slots) (hx : p.tables.exec = Jvm.exec) (hd : decode c.code pc = .ok (.lor, 1)) (hp : pc + 1 = pc') {z : Int64} (hz : u ||| w = z) (q : own_Go p e below Q T (mkF m pc' Ls (.long z :: rest))) : own_Go p e below Q T (mkF m pc Ls (.long w :: .long u :: rest)) := by
  subst hp hz; exact own_go (fun t k' => XS.lor X.here hx rfl hd rfl k') q
theorem o_lxor (X : Stand p l e R s m args below meth c T locs cells slots) (hx : p.tables.exec = Jvm.exec) (hd : decode c.code pc = .ok (.lxor, 1)) (hp : pc + 1 = pc') {z : Int64} (hz : u ^^^ w = z) (q : own_Go p e below Q T (mkF m pc' Ls (.long z :: rest))) : own_Go p e below Q T (mkF m pc Ls (.long w :: .long u :: rest)) := by
  subst hp hz; exact own_go (fun t k' => XS.lxor X.here hx rfl hd rfl k') q
theorem o_lshl (X : Stand p l e R s m args below meth c T locs cells slots) (hx : p.tables.exec = Jvm.exec) (hd : decode c.code pc = .ok (.lshl, 1)) (hp : pc + 1 = pc') {z : Int64} (hz : own_lshl u y = z) (q : own_Go p e below Q T (mkF m pc' Ls (.long z :: rest))) : own_Go p e below Q T (mkF m pc Ls (.int y :: .long u :: rest)) := by
  subst hp hz; exact own_go (fun t k' => XS.lshl X.here hx rfl hd rfl k') q
theorem o_lushr (X : Stand p l e R s m args below meth c T locs cells slots) (hx : p.tables.exec = Jvm.exec) (hd : decode c.code pc = .ok (.lushr, 1)) (hp : pc + 1 = pc') {z : Int64} (hz : own_lushr u y = z) (q : own_Go p e below Q T (mkF m pc' Ls (.long z :: rest))) : own_Go p e below Q T (mkF m pc Ls (.int y :: .long u :: rest)) := by
  subst hp hz; exact own_go (fun t k' => XS.lushr X.here hx rfl hd rfl k') q
theorem o_ldiv (X : Stand p l e R s m args below meth c T locs cells slots) (hx : p.tables.exec = Jvm.exec) (hd : decode c.code pc = .ok (.ldiv, 1)) (hp : pc + 1 = pc') (hy : w ≠ 0) {z : Int64} (hz : u / w = z) (q : own_Go p e below Q T (mkF m pc' Ls (.long z :: rest))) : own_Go p e below Q T (mkF m pc Ls (.long w :: .long u :: rest)) := by
  subst hp hz; exact own_go (fun t k' => XS.ldiv X.here hx rfl hd rfl hy k') q
theorem o_lrem (X : Stand p l e R s m args below meth c T locs cells slots) (hx : p.tables.exec = Jvm.exec) (hd : decode c.code pc = .ok (.lrem, 1)) (hp : pc + 1 = pc') (hy : w ≠ 0) {z : Int64} (hz : own_lrem u w = z) (q : own_Go p e below Q T (mkF m pc' Ls (.long z :: rest))) : own_Go p e below Q T (mkF m pc Ls (.long w :: .long u :: rest)) := by
  subst hp hz; exact own_go (fun t k' => XS.lrem X.here hx rfl hd rfl hy k') q
theorem o_i2l (X : Stand p l e R s m args below meth c T locs cells slots) (hx : p.tables.exec = Jvm.exec) (hd : decode c.code pc = .ok (.i2l, 1)) (hp : pc + 1 = pc') {z : Int64} (hz : x.toInt64 = z) (q : own_Go p e below Q T (mkF m pc' Ls (.long z :: rest))) : own_Go p e below Q T (mkF m pc Ls (.int x :: rest)) := by
  subst hp hz; exact own_go (fun t k' => XS.i2l X.here hx rfl hd rfl k') q
theorem o_l2i (X : Stand p l e R s m args below meth c T locs cells slots) (hx : p.tables.exec = Jvm.exec) (hd : decode c.code pc = .ok (.l2i, 1)) (hp : pc + 1 = pc') {z : Int32} (hz : u.toInt32 = z) (q : own_Go p e below Q T (mkF m pc' Ls (.int z :: rest))) : own_Go p e below Q T (mkF m pc Ls (.long u :: rest)) := by
  subst hp hz; exact own_go (fun t k' => XS.l2i X.here hx rfl hd rfl k') q
def own_i2b (x : Int32) : Int32 := x.toInt8.toInt32
def own_i2c (x : Int32) : Int32 := x.toUInt32.toUInt16.toUInt32.toInt32
theorem o_i2b (X : Stand p l e R s m args below meth c T locs cells slots) (hx : p.tables.exec = Jvm.exec) (hd : decode c.code pc = .ok (.i2b, 1)) (hp : pc + 1 = pc') {z : Int32} (hz : own_i2b x = z) (q : own_Go p e below Q T (mkF m pc' Ls (.int z :: rest))) : own_Go p e below Q T (mkF m pc Ls (.int x :: rest)) := by
  subst hp hz; exact own_go (fun t k' => XS.i2b X.here hx rfl hd rfl k') q
theorem o_i2c (X : Stand p l e R s m args below meth c T locs cells slots) (hx : p.tables.exec = Jvm.exec) (hd : decode c.code pc = .ok (.i2c, 1)) (hp : pc + 1 = pc') {z : Int32} (hz : own_i2c x = z) (q : own_Go p e below Q T (mkF m pc' Ls (.int z :: rest))) : own_Go p e below Q T (mkF m pc Ls (.int x :: rest)) := by
  subst hp hz; exact own_go (fun t k' => XS.i2c X.here hx rfl hd rfl k') q
theorem o_iinc (X : Stand p l e R s m args below meth c T locs cells slots) (hx : p.tables.exec = Jvm.exec) {k : Nat} {i : Int} (hd : decode c.code pc = .ok (.iinc k i, 3)) (hl : Ls[k]? = some (.val (.int x))) (hz : x + Int32.ofInt i = y) (hl' : storeLocals Ls k (.int y) = some l') (hp : pc + 3 = pc') (q : own_Go p e below Q T (mkF m pc' l' rest)) : own_Go p e below Q T (mkF m pc Ls rest) := by
  subst hp hz; exact own_go (fun t k' => XS.iinc X.here hx rfl hd hl hl' k') q
theorem o_dup (X : Stand p l e R s m args below meth c T locs cells slots) (hx : p.tables.exec = Jvm.exec) {v : Value} (hd : decode c.code pc = .ok (.dup, 1)) (hv : v.category = 1) (hp : pc + 1 = pc') (q : own_Go p e below Q T (mkF m pc' Ls (v :: v :: rest))) : own_Go p e below Q T (mkF m pc Ls (v :: rest)) := by
  subst hp; exact own_go (fun t k' => XS.dup X.here hx rfl hd rfl hv k') q
theorem o_pop (X : Stand p l e R s m args below meth c T locs cells slots) (hx : p.tables.exec = Jvm.exec) {v : Value} (hd : decode c.code pc = .ok (.pop, 1)) (hv : v.category = 1) (hp : pc + 1 = pc') (q : own_Go p e below Q T (mkF m pc' Ls rest)) : own_Go p e below Q T (mkF m pc Ls (v :: rest)) := by
  subst hp; exact own_go (fun t k' => XS.pop X.here hx rfl hd rfl hv k') q
theorem o_goto (X : Stand p l e R s m args below meth c T locs cells slots) (hx : p.tables.exec = Jvm.exec) {o : Int} (hd : decode c.code pc = .ok (.goto o, 3)) (ho : 0 ≤ (pc : Int) + o) (hp : ((pc : Int) + o).toNat = pc') (q : own_Go p e below Q T (mkF m pc' Ls rest)) : own_Go p e below Q T (mkF m pc Ls rest) :=
  own_go (fun t k' => XS.goto X.here hx rfl rfl hd ho hp k') q
theorem o_ifP (X : Stand p l e R s m args below meth c T locs cells slots) (hx : p.tables.exec = Jvm.exec) {cd : ClassFile.Cond} {o : Int} {P : Prop} [Decidable P] (hP : P → ifCond.holds cd x = true) (hN : ¬ P → ifCond.holds cd x = false) (hd : decode c.code pc = .ok (.ifCond cd o, 3)) (ho : 0 ≤ (pc : Int) + o) (hp : ((pc : Int) + o).toNat = pc1) (hp2 : pc + 3 = pc2)
    (kt : P → own_Go p e below Q T (mkF m pc1 Ls rest)) (kf : ¬ P → own_Go p e below Q T (mkF m pc2 Ls rest)) : own_Go p e below Q T (mkF m pc Ls (.int x :: rest)) := by
  subst hp2
  by_cases q : P
  · exact own_go (fun t k' => XS.ifYes X.here hx rfl rfl hd rfl (hP q) ho hp k') (kt q)
  · exact own_go (fun t k' => XS.ifNo X.here hx rfl hd rfl (hN q) k') (kf q)
theorem o_ifN (X : Stand p l e R s m args below meth c T locs cells slots) (hx : p.tables.exec = Jvm.exec) {cd : ClassFile.Cond} {o : Int} {P : Prop} [Decidable P] (hP : P → ifCond.holds cd x = false) (hN : ¬ P → ifCond.holds cd x = true) (hd : decode c.code pc = .ok (.ifCond cd o, 3)) (ho : 0 ≤ (pc : Int) + o) (hp : ((pc : Int) + o).toNat = pc1) (hp2 : pc + 3 = pc2)
    (kt : ¬ P → own_Go p e below Q T (mkF m pc1 Ls rest)) (kf : P → own_Go p e below Q T (mkF m pc2 Ls rest)) : own_Go p e below Q T (mkF m pc Ls (.int x :: rest)) := by
  subst hp2
  by_cases q : P
  · exact own_go (fun t k' => XS.ifNo X.here hx rfl hd rfl (hP q) k') (kf q)
  · exact own_go (fun t k' => XS.ifYes X.here hx rfl rfl hd rfl (hN q) ho hp k') (kt q)
theorem o_icP (X : Stand p l e R s m args below meth c T locs cells slots) (hx : p.tables.exec = Jvm.exec) {cd : ClassFile.Cond} {o : Int} {P : Prop} [Decidable P] (hP : P → if_icmp.holds cd x y = true) (hN : ¬ P → if_icmp.holds cd x y = false) (hd : decode c.code pc = .ok (.if_icmp cd o, 3)) (ho : 0 ≤ (pc : Int) + o) (hp : ((pc : Int) + o).toNat = pc1) (hp2 : pc + 3 = pc2)
    (kt : P → own_Go p e below Q T (mkF m pc1 Ls rest)) (kf : ¬ P → own_Go p e below Q T (mkF m pc2 Ls rest)) : own_Go p e below Q T (mkF m pc Ls (.int y :: .int x :: rest)) := by
  subst hp2
  by_cases q : P
  · exact own_go (fun t k' => XS.icmpYes X.here hx rfl rfl hd rfl (hP q) ho hp k') (kt q)
  · exact own_go (fun t k' => XS.icmpNo X.here hx rfl hd rfl (hN q) k') (kf q)
theorem o_icN (X : Stand p l e R s m args below meth c T locs cells slots) (hx : p.tables.exec = Jvm.exec) {cd : ClassFile.Cond} {o : Int} {P : Prop} [Decidable P] (hP : P → if_icmp.holds cd x y = false) (hN : ¬ P → if_icmp.holds cd x y = true) (hd : decode c.code pc = .ok (.if_icmp cd o, 3)) (ho : 0 ≤ (pc : Int) + o) (hp : ((pc : Int) + o).toNat = pc1) (hp2 : pc + 3 = pc2)
    (kt : ¬ P → own_Go p e below Q T (mkF m pc1 Ls rest)) (kf : P → own_Go p e below Q T (mkF m pc2 Ls rest)) : own_Go p e below Q T (mkF m pc Ls (.int y :: .int x :: rest)) := by
  subst hp2
  by_cases q : P
  · exact own_go (fun t k' => XS.icmpNo X.here hx rfl hd rfl (hP q) k') (kf q)
  · exact own_go (fun t k' => XS.icmpYes X.here hx rfl rfl hd rfl (hN q) ho hp k') (kt q)
/-- a branch that goes one way for sure -/
theorem o_ifY (X : Stand p l e R s m args below meth c T locs cells slots) (hx : p.tables.exec = Jvm.exec) {cd : ClassFile.Cond} {o : Int} (hc : ifCond.holds cd x = true) (hd : decode c.code pc = .ok (.ifCond cd o, 3)) (ho : 0 ≤ (pc : Int) + o) (hp : ((pc : Int) + o).toNat = pc') (q : own_Go p e below Q T (mkF m pc' Ls rest)) : own_Go p e below Q T (mkF m pc Ls (.int x :: rest)) :=
  own_go (fun t k' => XS.ifYes X.here hx rfl rfl hd rfl hc ho hp k') q
theorem o_ifX (X : Stand p l e R s m args below meth c T locs cells slots) (hx : p.tables.exec = Jvm.exec) {cd : ClassFile.Cond} {o : Int} (hc : ifCond.holds cd x = false) (hd : decode c.code pc = .ok (.ifCond cd o, 3)) (hp : pc + 3 = pc') (q : own_Go p e below Q T (mkF m pc' Ls rest)) : own_Go p e below Q T (mkF m pc Ls (.int x :: rest)) := by
  subst hp; exact own_go (fun t k' => XS.ifNo X.here hx rfl hd rfl hc k') q
theorem o_icY (X : Stand p l e R s m args below meth c T locs cells slots) (hx : p.tables.exec = Jvm.exec) {cd : ClassFile.Cond} {o : Int} (hc : if_icmp.holds cd x y = true) (hd : decode c.code pc = .ok (.if_icmp cd o, 3)) (ho : 0 ≤ (pc : Int) + o) (hp : ((pc : Int) + o).toNat = pc') (q : own_Go p e below Q T (mkF m pc' Ls rest)) : own_Go p e below Q T (mkF m pc Ls (.int y :: .int x :: rest)) :=
  own_go (fun t k' => XS.icmpYes X.here hx rfl rfl hd rfl hc ho hp k') q
theorem o_icX (X : Stand p l e R s m args below meth c T locs cells slots) (hx : p.tables.exec = Jvm.exec) {cd : ClassFile.Cond} {o : Int} (hc : if_icmp.holds cd x y = false) (hd : decode c.code pc = .ok (.if_icmp cd o, 3)) (hp : pc + 3 = pc') (q : own_Go p e below Q T (mkF m pc' Ls rest)) : own_Go p e below Q T (mkF m pc Ls (.int y :: .int x :: rest)) := by
  subst hp; exact own_go (fun t k' => XS.icmpNo X.here hx rfl hd rfl hc k') q
theorem o_lcmp (X : Stand p l e R s m args below meth c T locs cells slots) (hx : p.tables.exec = Jvm.exec) (hd : decode c.code pc = .ok (.lcmp, 1)) (hp : pc + 1 = pc') (q : own_Go p e below Q T (mkF m pc' Ls (.int (XT.cmpL u w) :: rest))) : own_Go p e below Q T (mkF m pc Ls (.long w :: .long u :: rest)) := by
  subst hp; exact own_go (fun t k' => XS.lcmp X.here hx rfl hd rfl k') q
theorem o_ifnullX (X : Stand p l e R s m args below meth c T locs cells slots) (hx : p.tables.exec = Jvm.exec) {o : Int} {a : Addr} (hd : decode c.code pc = .ok (.ifnull o, 3)) (hp : pc + 3 = pc') (q : own_Go p e below Q T (mkF m pc' Ls rest)) : own_Go p e below Q T (mkF m pc Ls (.ref a :: rest)) := by
  subst hp; exact own_go (fun t k' => XS.ifnullNo X.here hx rfl hd rfl k') q
/-- the ends -/
theorem o_ret (X : Stand p l e R s m args below meth c T locs cells slots) {v : Option Value} {g : JFrame} (hv : meth.sig.returnType = none → v = none) (hlk : meth.locks = false) (hc : cells ≤ cc) (hs : slots ≤ ss) (eT : T.heap = h) (hK : K v h locs)
    (st : ∀ fs : List Frame, (∀ (f : JFrame) (acts : List Action), f.method = m → f.locked = none → f.entered = [] → (doReturn e (T.setTop f) acts v).1 = T.setFrames fs) → Steps p.tables e below (T.setTop g) (T.setFrames fs)) : own_Go p e below (own_Q s K cc ss) T g := by
  subst eT
  obtain ⟨fs, hr, hrun, hended, hW, hsame⟩ := X.leave (v := v) hv hlk
  exact ⟨_, _, st fs hr, hrun, hended, _, _, rfl, hK, ⟨_, rfl⟩, hW, hsame.mono hc hs⟩
theorem o_retV (X : Stand p l e R s m args below meth c T locs cells slots) (hx : p.tables.exec = Jvm.exec) (hret : meth.sig.returnType = none) (hlk : meth.locks = false) (hd : decode c.code pc = .ok (.return_, 1)) (hc : cells ≤ cc) (hs : slots ≤ ss) (eT : T.heap = h) (hK : K none h locs) : own_Go p e below (own_Q s K cc ss) T (mkF m pc Ls []) :=
  o_ret X (fun _ => rfl) hlk hc hs eT hK fun fs hr => X.returnOut hx hret hd hr
theorem o_retI (X : Stand p l e R s m args below meth c T locs cells slots) (hx : p.tables.exec = Jvm.exec) (hret : meth.sig.returnType = some .int) (hlk : meth.locks = false) (hd : decode c.code pc = .ok (.ireturn, 1)) (hc : cells ≤ cc) (hs : slots ≤ ss) (eT : T.heap = h) (hK : K (some (.int x)) h locs) : own_Go p e below (own_Q s K cc ss) T (mkF m pc Ls (.int x :: rest)) :=
  o_ret X (fun h => by rw [hret] at h; cases h) hlk hc hs eT hK fun fs hr => retI X hx hret hd hr
theorem o_retN (X : Stand p l e R s m args below meth c T locs cells slots) (hx : p.tables.exec = Jvm.exec) {t : FieldType} (hret : meth.sig.returnType = some t) (ht : t = .boolean ∨ t = .byte ∨ t = .char ∨ t = .short) (hlk : meth.locks = false) (hd : decode c.code pc = .ok (.ireturn, 1)) (hc : cells ≤ cc) (hs : slots ≤ ss) (eT : T.heap = h) (hK : K (some (.int (nar t x))) h locs) : own_Go p e below (own_Q s K cc ss) T (mkF m pc Ls (.int x :: rest)) :=
  o_ret X (fun h => by rw [hret] at h; cases h) hlk hc hs eT hK fun fs hr => retN X hx hret ht hd hr
theorem o_retL (X : Stand p l e R s m args below meth c T locs cells slots) (hx : p.tables.exec = Jvm.exec) (hret : meth.sig.returnType = some .long) (hlk : meth.locks = false) (hd : decode c.code pc = .ok (.lreturn, 1)) (hc : cells ≤ cc) (hs : slots ≤ ss) (eT : T.heap = h) (hK : K (some (.long u)) h locs) : own_Go p e below (own_Q s K cc ss) T (mkF m pc Ls (.long u :: rest)) :=
  o_ret X (fun h => by rw [hret] at h; cases h) hlk hc hs eT hK fun fs hr => by
    jvm_step X.here [X.here.top, hx, hd, X.method', hret, narrow]
    first | (intro acts; rw [hr _ acts rfl rfl rfl]) | rw [hr _ _ rfl rfl rfl]
    exact Steps.refl _
theorem o_retA (X : Stand p l e R s m args below meth c T locs cells slots) (hx : p.tables.exec = Jvm.exec) {t : FieldType} (hret : meth.sig.returnType = some (.array t)) (hlk : meth.locks = false) {a : Addr} (hd : decode c.code pc = .ok (.areturn, 1)) (hc : cells ≤ cc) (hs : slots ≤ ss) (eT : T.heap = h) (hK : K (some (.ref a)) h locs) : own_Go p e below (own_Q s K cc ss) T (mkF m pc Ls (.ref a :: rest)) :=
  o_ret X (fun h => by rw [hret] at h; cases h) hlk hc hs eT hK fun fs hr => by
    jvm_step X.here [X.here.top, hx, hd, X.method', hret, Value.isRef, FieldType.isReference]
    first | (intro acts; rw [hr _ acts rfl rfl rfl]) | rw [hr _ _ rfl rfl rfl]
    exact Steps.refl _
/-- arrays as lists -/
def own_AI (Z : State) (h : Heap) (a : Addr) (ty : FieldType) (vs : List Int32) : Prop := ∃ cl : Cell, Arr Z h a cl ty ∧ cl.slots = (vs.map Value.int).toArray
def own_AJ (Z : State) (h : Heap) (a : Addr) (vs : List Int64) : Prop := ∃ cl : Cell, Arr Z h a cl .long ∧ cl.slots = (vs.map Value.long).toArray
def own_in (n : Nat) (j : Int32) : Prop := ¬ j < 0 ∧ j.toNatClampNeg < n
def own_get (vs : List Int32) (j : Int32) : Int32 := vs.getD j.toNatClampNeg 0
def own_getL (vs : List Int64) (j : Int32) : Int64 := vs.getD j.toNatClampNeg 0
def own_set (vs : List Int32) (j x : Int32) : List Int32 := vs.set j.toNatClampNeg x
def own_setL (vs : List Int64) (j : Int32) (u : Int64) : List Int64 := vs.set j.toNatClampNeg u
theorem own_AI.lt {a : Addr} {ty : FieldType} {vs : List Int32} (A : own_AI Z h a ty vs) : a < h.size := by obtain ⟨cl, A, -⟩ := A; exact A.lt
theorem own_AI.ext {a : Addr} {ty : FieldType} {vs : List Int32} (A : own_AI Z h a ty vs) (E : Ext h h') : own_AI Z h' a ty vs := by obtain ⟨cl, A, q⟩ := A; exact ⟨cl, A.ext E, q⟩
theorem own_AI.other {a b : Addr} {ty : FieldType} {vs : List Int32} {sl : Nat} {v : Value} (A : own_AI Z h a ty vs) (W : Wr h h' b sl v) (ne : a ≠ b) : own_AI Z h' a ty vs := by obtain ⟨cl, A, q⟩ := A; exact ⟨cl, A.other W ne, q⟩
theorem own_AI.keep {a : Addr} {ty : FieldType} {vs : List Int32} {ws : List Addr} (A : own_AI Z h a ty vs) (K : Keep h h' ws) (ne : a ∉ ws) : own_AI Z h' a ty vs := by obtain ⟨cl, A, q⟩ := A; exact ⟨cl, ⟨K.2.1 a cl A.1 ne, A.2⟩, q⟩
theorem own_AI.put {a : Addr} {ty : FieldType} {vs : List Int32} {j : Int32} (A : own_AI Z h a ty vs) (W : Wr h h' a j.toNatClampNeg (.int x)) : own_AI Z h' a ty (own_set vs j x) := by
  obtain ⟨cl, A, q⟩ := A
  refine ⟨_, A.same W, ?_⟩
  show cl.slots.setIfInBounds _ _ = _
  rw [q, own_set, List.map_set, List.setIfInBounds_toArray]
theorem own_AJ.lt {a : Addr} {vs : List Int64} (A : own_AJ Z h a vs) : a < h.size := by obtain ⟨cl, A, -⟩ := A; exact A.lt
theorem own_AJ.ext {a : Addr} {vs : List Int64} (A : own_AJ Z h a vs) (E : Ext h h') : own_AJ Z h' a vs := by obtain ⟨cl, A, q⟩ := A; exact ⟨cl, A.ext E, q⟩
theorem own_AJ.other {a b : Addr} {vs : List Int64} {sl : Nat} {v : Value} (A : own_AJ Z h a vs) (W : Wr h h' b sl v) (ne : a ≠ b) : own_AJ Z h' a vs := by obtain ⟨cl, A, q⟩ := A; exact ⟨cl, A.other W ne, q⟩
theorem own_AJ.keep {a : Addr} {vs : List Int64} {ws : List Addr} (A : own_AJ Z h a vs) (K : Keep h h' ws) (ne : a ∉ ws) : own_AJ Z h' a vs := by obtain ⟨cl, A, q⟩ := A; exact ⟨cl, ⟨K.2.1 a cl A.1 ne, A.2⟩, q⟩
theorem own_AJ.put {a : Addr} {vs : List Int64} {j : Int32} (A : own_AJ Z h a vs) (W : Wr h h' a j.toNatClampNeg (.long u)) : own_AJ Z h' a (own_setL vs j u) := by
  obtain ⟨cl, A, q⟩ := A
  refine ⟨_, A.same W, ?_⟩
  show cl.slots.setIfInBounds _ _ = _
  rw [q, own_setL, List.map_set, List.setIfInBounds_toArray]
theorem own_inA {n : Nat} {j : Int32} {cl : Cell} (hj : own_in n j) (hn : cl.slots.size = n) : ¬ (j < 0 ∨ cl.slots.size ≤ j.toNatClampNeg) := fun q => q.elim hj.1 fun q => by rw [hn] at q; exact Nat.not_lt.mpr q hj.2
theorem own_szI {cl : Cell} {vs : List Int32} (q : cl.slots = (vs.map Value.int).toArray) : cl.slots.size = vs.length := by rw [q]; simp
theorem own_szJ {cl : Cell} {vs : List Int64} (q : cl.slots = (vs.map Value.long).toArray) : cl.slots.size = vs.length := by rw [q]; simp
theorem own_atI {cl : Cell} {vs : List Int32} {j : Int32} (q : cl.slots = (vs.map Value.int).toArray) (hj : own_in vs.length j) : cl.slots[j.toNatClampNeg]? = some (.int (own_get vs j)) := by
  rw [q, List.getElem?_toArray, List.getElem?_map, List.getElem?_eq_getElem hj.2, own_get, List.getD_eq_getElem?_getD, List.getElem?_eq_getElem hj.2]; rfl
theorem own_atJ {cl : Cell} {vs : List Int64} {j : Int32} (q : cl.slots = (vs.map Value.long).toArray) (hj : own_in vs.length j) : cl.slots[j.toNatClampNeg]? = some (.long (own_getL vs j)) := by
  rw [q, List.getElem?_toArray, List.getElem?_map, List.getElem?_eq_getElem hj.2, own_getL, List.getD_eq_getElem?_getD, List.getElem?_eq_getElem hj.2]; rfl
theorem o_iaload (X : Stand p l e R s m args below meth c T locs cells slots) (hx : p.tables.exec = Jvm.exec) (hZ : Z.Warmed39 s.vm) (eT : T.heap = h) {a : Addr} {vs : List Int32} {j : Int32} (A : own_AI Z h a .int vs) (hj : own_in vs.length j) (hd : decode c.code pc = .ok (.iaload, 1)) (hp : pc + 1 = pc') (hv : own_get vs j = x) (q : own_Go p e below Q T (mkF m pc' Ls (.int x :: rest))) : own_Go p e below Q T (mkF m pc Ls (.int j :: .ref a :: rest)) := by
  subst hp hv
  obtain ⟨cl, A, qs⟩ := A
  exact own_go (fun t k' => X.iaload hx (by rw [eT]; exact A.1) (State.isArrayOf_alike hZ.alike A.2.1) A.2.2 (own_inA hj (own_szI qs)) (own_atI qs hj) (g := mkF m pc Ls (.int j :: .ref a :: rest)) rfl rfl hd t k') q
theorem o_baload (X : Stand p l e R s m args below meth c T locs cells slots) (hx : p.tables.exec = Jvm.exec) (hZ : Z.Warmed39 s.vm) (eT : T.heap = h) {a : Addr} {vs : List Int32} {j : Int32} (A : own_AI Z h a .byte vs) (hj : own_in vs.length j) (hd : decode c.code pc = .ok (.baload, 1)) (hp : pc + 1 = pc') (hv : own_get vs j = x) (q : own_Go p e below Q T (mkF m pc' Ls (.int x :: rest))) : own_Go p e below Q T (mkF m pc Ls (.int j :: .ref a :: rest)) := by
  subst hp hv
  obtain ⟨cl, A, qs⟩ := A
  exact own_go (fun t k' => X.baloadBytes hx (by rw [eT]; exact A.1) (State.isArrayOf_alike hZ.alike A.2.1) A.2.2 (own_inA hj (own_szI qs)) (own_atI qs hj) (g := mkF m pc Ls (.int j :: .ref a :: rest)) rfl rfl hd t k') q
theorem o_laload (X : Stand p l e R s m args below meth c T locs cells slots) (hx : p.tables.exec = Jvm.exec) (hZ : Z.Warmed39 s.vm) (eT : T.heap = h) {a : Addr} {vs : List Int64} {j : Int32} (A : own_AJ Z h a vs) (hj : own_in vs.length j) (hd : decode c.code pc = .ok (.laload, 1)) (hp : pc + 1 = pc') (hv : own_getL vs j = u) (q : own_Go p e below Q T (mkF m pc' Ls (.long u :: rest))) : own_Go p e below Q T (mkF m pc Ls (.int j :: .ref a :: rest)) := by
  subst hp hv
  obtain ⟨cl, A, qs⟩ := A
  exact own_go (fun t k' => X.laload hx (by rw [eT]; exact A.1) (State.isArrayOf_alike hZ.alike A.2.1) A.2.2 (own_inA hj (own_szJ qs)) (own_atJ qs hj) (g := mkF m pc Ls (.int j :: .ref a :: rest)) rfl rfl hd t k') q
/-- the length as arraylength pushes it -/
def own_len (n : Nat) : Int32 := n.toInt32
theorem o_alenI (X : Stand p l e R s m args below meth c T locs cells slots) (hx : p.tables.exec = Jvm.exec) (hZ : Z.Warmed39 s.vm) (eT : T.heap = h) {a : Addr} {ty : FieldType} {vs : List Int32} (A : own_AI Z h a ty vs) (hd : decode c.code pc = .ok (.arraylength, 1)) (hp : pc + 1 = pc') (hv : own_len vs.length = x) (q : own_Go p e below Q T (mkF m pc' Ls (.int x :: rest))) : own_Go p e below Q T (mkF m pc Ls (.ref a :: rest)) := by
  subst hp hv
  obtain ⟨cl, A, qs⟩ := A
  refine own_go (fun t k' => X.arraylength hx (by rw [eT]; exact A.1) (State.isArrayOf_alike hZ.alike A.2.1) (g := mkF m pc Ls (.ref a :: rest)) rfl rfl hd t k') ?_
  rw [own_szI qs]; exact q
theorem o_alenJ (X : Stand p l e R s m args below meth c T locs cells slots) (hx : p.tables.exec = Jvm.exec) (hZ : Z.Warmed39 s.vm) (eT : T.heap = h) {a : Addr} {vs : List Int64} (A : own_AJ Z h a vs) (hd : decode c.code pc = .ok (.arraylength, 1)) (hp : pc + 1 = pc') (hv : own_len vs.length = x) (q : own_Go p e below Q T (mkF m pc' Ls (.int x :: rest))) : own_Go p e below Q T (mkF m pc Ls (.ref a :: rest)) := by
  subst hp hv
  obtain ⟨cl, A, qs⟩ := A
  refine own_go (fun t k' => X.arraylength hx (by rw [eT]; exact A.1) (State.isArrayOf_alike hZ.alike A.2.1) (g := mkF m pc Ls (.ref a :: rest)) rfl rfl hd t k') ?_
  rw [own_szJ qs]; exact q
/-- stores: the place stays in locs -/
theorem o_iastore (X : Stand p l e R s m args below meth c T locs cells slots) (hx : p.tables.exec = Jvm.exec) (hZ : Z.Warmed39 s.vm) (eT : T.heap = h) {a : Addr} {vs vs' : List Int32} {j : Int32} (A : own_AI Z h a .int vs) (hj : own_in vs.length j) (hd : decode c.code pc = .ok (.iastore, 1)) (hp : pc + 1 = pc') (hv : own_set vs j x = vs')
    (k : ∀ T' h', Stand p l e R s m args below meth c T' (locs ++ [⟨a, j.toNatClampNeg⟩]) cells slots → T'.heap = h' → Wr h h' a j.toNatClampNeg (.int x) → own_AI Z h' a .int vs' → own_Go p e below Q T' (mkF m pc' Ls rest)) : own_Go p e below Q T (mkF m pc Ls (.int x :: .int j :: .ref a :: rest)) := by
  subst hp hv
  obtain ⟨cl, A', qs⟩ := id A
  obtain ⟨T', h', X', e', W, st⟩ := stI X hx hZ eT A' (own_inA hj (own_szI qs)) (g := mkF m pc Ls (.int x :: .int j :: .ref a :: rest)) rfl rfl hd
  exact own_go st (k T' h' X' e' W (A.put W))
theorem o_bastore (X : Stand p l e R s m args below meth c T locs cells slots) (hx : p.tables.exec = Jvm.exec) (hZ : Z.Warmed39 s.vm) (eT : T.heap = h) {a : Addr} {vs vs' : List Int32} {j : Int32} (A : own_AI Z h a .byte vs) (hj : own_in vs.length j) (hd : decode c.code pc = .ok (.bastore, 1)) (hp : pc + 1 = pc') (hv : own_set vs j (own_i2b x) = vs')
    (k : ∀ T' h', Stand p l e R s m args below meth c T' (locs ++ [⟨a, j.toNatClampNeg⟩]) cells slots → T'.heap = h' → Wr h h' a j.toNatClampNeg (.int (own_i2b x)) → own_AI Z h' a .byte vs' → own_Go p e below Q T' (mkF m pc' Ls rest)) : own_Go p e below Q T (mkF m pc Ls (.int x :: .int j :: .ref a :: rest)) := by
  subst hp hv
  obtain ⟨cl, A', qs⟩ := id A
  obtain ⟨T', h', X', e', W, st⟩ := stB X hx hZ eT A' (own_inA hj (own_szI qs)) (g := mkF m pc Ls (.int x :: .int j :: .ref a :: rest)) rfl rfl hd
  exact own_go st (k T' h' X' e' W (A.put W))
theorem o_lastore (X : Stand p l e R s m args below meth c T locs cells slots) (hx : p.tables.exec = Jvm.exec) (hZ : Z.Warmed39 s.vm) (eT : T.heap = h) {a : Addr} {vs vs' : List Int64} {j : Int32} (A : own_AJ Z h a vs) (hj : own_in vs.length j) (hd : decode c.code pc = .ok (.lastore, 1)) (hp : pc + 1 = pc') (hv : own_setL vs j u = vs')
    (k : ∀ T' h', Stand p l e R s m args below meth c T' (locs ++ [⟨a, j.toNatClampNeg⟩]) cells slots → T'.heap = h' → Wr h h' a j.toNatClampNeg (.long u) → own_AJ Z h' a vs' → own_Go p e below Q T' (mkF m pc' Ls rest)) : own_Go p e below Q T (mkF m pc Ls (.long u :: .int j :: .ref a :: rest)) := by
  subst hp hv
  obtain ⟨cl, A', qs⟩ := id A
  obtain ⟨T', h', X', e', W, st⟩ := stJ X hx hZ eT A' (own_inA hj (own_szJ qs)) (g := mkF m pc Ls (.long u :: .int j :: .ref a :: rest)) rfl rfl hd
  exact own_go st (k T' h' X' e' W (A.put W))
theorem own_sz (X : Stand p l e R s m args below meth c T locs cells slots) (eT : T.heap = h) : s.heap.size ≤ h.size := by
  have q := X.same.2.1
  rw [← eT]; exact q
/-- the place written lies in a cell made since the start: it needn't be told -/
theorem own_drop {a : Addr} {j : Nat} (X : Stand p l e R s m args below meth c T (locs ++ [⟨a, j⟩]) cells slots) (ha : s.heap.size ≤ a) : Stand p l e R s m args below meth c T locs cells slots := X.forget fun y hy => by cases List.mem_singleton.mp hy; exact ha
theorem own_dropL {L : List Loc} {k : Nat} (X : Stand p l e R s m args below meth c T (locs ++ L) cells slots) (ha : s.heap.size ≤ k) (hL : ∀ y ∈ L, k ≤ y.base) : Stand p l e R s m args below meth c T locs cells slots := X.forget fun y hy => Nat.le_trans ha (hL y hy)
/-- newarray -/
theorem o_newI (X : Stand p l e R s m args below meth c T locs cells slots) (hx : p.tables.exec = Jvm.exec) (hZ : Z.Warmed39 s.vm) (eT : T.heap = h) {aty : ArrayType} {ty : FieldType} (w1 : (Cond.arrayClass ty).before a0 Z = true) (hty : newarray.typeOf aty = ty) (hdv : defaultValue ty = .int 0) (hd : decode c.code pc = .ok (.newarray aty, 2)) (hp : pc + 2 = pc') (hn : ¬ x < 0) {cap : Nat} (hcap : x.toNatClampNeg ≤ cap) (hb : cap * 8 ≤ 536870912) (hc : cells + 1 ≤ R.cells) (hs : slots + cap ≤ R.slots) {vs : List Int32} (hv : List.replicate x.toNatClampNeg 0 = vs)
    (k : ∀ T' h' a, Stand p l e R s m args below meth c T' locs (cells + 1) (slots + cap) → T'.heap = h' → h.size = a → Ext h h' → own_AI Z h' a ty vs → own_Go p e below Q T' (mkF m pc' Ls (.ref a :: rest))) : own_Go p e below Q T (mkF m pc Ls (.int x :: rest)) := by
  subst hp hv hty
  obtain ⟨T', h', cA, X', e', E, A, st⟩ := newP X hx hZ w1 eT (g := mkF m pc Ls (.int x :: rest)) rfl hd rfl hn hcap hb hc hs
  exact own_go st (k T' h' _ X' e' rfl E ⟨_, A, by simp [newA, hdv]⟩)
theorem o_newJ (X : Stand p l e R s m args below meth c T locs cells slots) (hx : p.tables.exec = Jvm.exec) (hZ : Z.Warmed39 s.vm) (eT : T.heap = h) (w1 : (Cond.arrayClass .long).before a0 Z = true) (hd : decode c.code pc = .ok (.newarray .long, 2)) (hp : pc + 2 = pc') (hn : ¬ x < 0) {cap : Nat} (hcap : x.toNatClampNeg ≤ cap) (hb : cap * 8 ≤ 536870912) (hc : cells + 1 ≤ R.cells) (hs : slots + cap ≤ R.slots) {vs : List Int64} (hv : List.replicate x.toNatClampNeg 0 = vs)
    (k : ∀ T' h' a, Stand p l e R s m args below meth c T' locs (cells + 1) (slots + cap) → T'.heap = h' → h.size = a → Ext h h' → own_AJ Z h' a vs → own_Go p e below Q T' (mkF m pc' Ls (.ref a :: rest))) : own_Go p e below Q T (mkF m pc Ls (.int x :: rest)) := by
  subst hp hv
  obtain ⟨T', h', cA, X', e', E, A, st⟩ := newP X hx hZ (aty := .long) w1 eT (g := mkF m pc Ls (.int x :: rest)) rfl hd rfl hn hcap hb hc hs
  exact own_go st (k T' h' _ X' e' rfl E ⟨_, A, by simp [newA, show defaultValue (newarray.typeOf .long) = Value.long 0 from rfl]⟩)
/-- a static call by the callee's contract -/
theorem o_callS (X : Stand p l e R s m args below meth c T locs cells slots) (hx : p.tables.exec = Jvm.exec) (hZ : Z.Warmed39 s.vm) (eT : T.heap = h) {own : String} {index : Nat} {y : MethodName} {bytes : ByteArray} {maxL : Nat} {ret : Option FieldType} {rm : Room} {W : Nat} (hown : s.vm.findClass own = some m.cls)
    (w1 : (Cond.methodLink own index y).before a0 Z = true) (w2 : (Cond.static y).before a0 Z = true) (w3 : (Cond.initialized y.cls).before a0 Z = true) (w4 : (Cond.code y bytes maxL ret).before a0 Z = true) (hy : y.cls ≠ "java/lang/invoke/MethodHandle" ∧ y.cls ≠ "java/lang/invoke/VarHandle") {as' : Array Value} {K : Option Value → Heap → List Loc → Prop}
    (hM : MetFree l y (head1 [Cond.code y bytes maxL ret] rm) (fun a U => a = as' ∧ Z.Warmed39 U.vm ∧ U.heap = h) (fun _ _ _ _ _ => True) (fun _ U o U' => ∃ v L, o = .returned v ∧ K v U'.heap L ∧ FrameEnd U o U' L rm.cells rm.slots))
    (hf : rm.frames + 1 ≤ R.frames) (hl : W + (maxL + 11) + rm.locals ≤ R.locals) (hml : Ls.size = c.maxLocals) {argsL st : List Value} {sig : MethodDescriptor} (hpd : parseMethodDescriptor y.desc = some sig) (hlen : argsL.length = sig.parameters.length) (hst : st = argsL.reverse ++ rest) (has : argsL.toArray = as') (hW : (rest.map fun v => v.category).sum = W)
    (hd : decode c.code pc = .ok (.invokestatic index, 3)) (hp : pc + 3 = pc') (hc : cells + rm.cells ≤ R.cells) (hs : slots + rm.slots ≤ R.slots)
    (k : ∀ v T' L, Stand p l e R s m args below meth c T' (locs ++ L) (cells + rm.cells) (slots + rm.slots) → K v T'.heap L → own_Go p e below Q T' (mkF m pc' Ls (v.toList ++ rest))) : own_Go p e below Q T (mkF m pc Ls st) := by
  subst hp hst has
  obtain ⟨v, _, ⟨T1, L1, k1, n1⟩, -, X1, ⟨Lc, hQ, l1, y1, z1⟩, st1⟩ := Jvm.LawKit.callS X hx hown (mvT hZ w1) (mvT hZ w2) (mvT hZ w3) (mvT hZ w4) hy (backOf (W := W) hM hZ w4 w3 hf hl) (g := mkF m pc Ls (argsL.reverse ++ rest)) rfl hml (argsL := argsL) (rest := rest) (fun sg hsg => by cases hpd.symm.trans hsg; exact hlen) rfl (by show 2 * 0 + _ ≤ _; rw [hW]; omega) hd (fun _ _ => ⟨rfl, eT, hc, hs⟩)
  dsimp only [Pt.U, Pt.locs, Pt.cells, Pt.slots] at X1 l1 y1 z1 st1 hQ
  subst l1 y1 z1
  exact own_go st1 (k v T1 Lc X1 hQ)
/-- a body that writes nothing: what it returns, the heap as it was -/
def own_KP (V : Option Value) (h0 : Heap) : Option Value → Heap → List Loc → Prop := fun v h L => v = V ∧ h = h0 ∧ L = []
/-- a law: what it returns; nothing old is written -/
def own_KL (V : Option Value) : Option Value → Heap → List Loc → Prop := fun v _ L => v = V ∧ L = []
theorem o_callP (X : Stand p l e R s m args below meth c T locs cells slots) (hx : p.tables.exec = Jvm.exec) (hZ : Z.Warmed39 s.vm) (eT : T.heap = h) {own : String} {index : Nat} {y : MethodName} {bytes : ByteArray} {maxL : Nat} {ret : Option FieldType} {rm : Room} {W : Nat} (hown : s.vm.findClass own = some m.cls)
    (w1 : (Cond.methodLink own index y).before a0 Z = true) (w2 : (Cond.static y).before a0 Z = true) (w3 : (Cond.initialized y.cls).before a0 Z = true) (w4 : (Cond.code y bytes maxL ret).before a0 Z = true) (hy : y.cls ≠ "java/lang/invoke/MethodHandle" ∧ y.cls ≠ "java/lang/invoke/VarHandle") {as' : Array Value} {V : Option Value}
    (hM : MetFree l y (head1 [Cond.code y bytes maxL ret] rm) (fun a U => a = as' ∧ Z.Warmed39 U.vm ∧ U.heap = h) (fun _ _ _ _ _ => True) (fun _ U o U' => ∃ v L, o = .returned v ∧ own_KP V h v U'.heap L ∧ FrameEnd U o U' L rm.cells rm.slots))
    (hf : rm.frames + 1 ≤ R.frames) (hl : W + (maxL + 11) + rm.locals ≤ R.locals) (hml : Ls.size = c.maxLocals) {argsL st : List Value} {sig : MethodDescriptor} (hpd : parseMethodDescriptor y.desc = some sig) (hlen : argsL.length = sig.parameters.length) (hst : st = argsL.reverse ++ rest) (has : argsL.toArray = as') (hW : (rest.map fun v => v.category).sum = W)
    (hd : decode c.code pc = .ok (.invokestatic index, 3)) (hp : pc + 3 = pc') (hc0 : rm.cells = 0) (hs0 : rm.slots = 0) (hc : cells + rm.cells ≤ R.cells) (hs : slots + rm.slots ≤ R.slots)
    {st' : List Value} (hst' : V.toList ++ rest = st')
    (k : ∀ T', Stand p l e R s m args below meth c T' locs cells slots → T'.heap = h → own_Go p e below Q T' (mkF m pc' Ls st')) : own_Go p e below Q T (mkF m pc Ls st) := by
  subst hst'
  refine o_callS X hx hZ eT hown w1 w2 w3 w4 hy hM hf hl hml hpd hlen hst has hW hd hp hc hs fun v T' L X' hK => ?_
  obtain ⟨rfl, e', rfl⟩ := hK
  rw [hc0, hs0, List.append_nil] at X'
  exact k T' X' e'
theorem own_snoc {a : Addr} {L : List Loc} {j : Nat} (N : ∀ y ∈ L, y.base = a) : ∀ y ∈ L ++ [⟨a, j⟩], y.base = a := fun y hy => (List.mem_append.mp hy).elim (N y) fun q => by cases List.mem_singleton.mp q; rfl
theorem own_nil (X : Stand p l e R s m args below meth c T (locs ++ []) cells slots) : Stand p l e R s m args below meth c T locs cells slots := by rw [List.append_nil] at X; exact X
/-- a body that writes into the array a alone -/
def own_KW (Z : State) (a : Addr) (ty : FieldType) (vs : List Int32) (h0 : Heap) : Option Value → Heap → List Loc → Prop := fun v h L => v = none ∧ (∀ y ∈ L, y.base = a) ∧ Keep h0 h [a] ∧ own_AI Z h a ty vs
def own_KWJ (Z : State) (a : Addr) (vs : List Int64) (h0 : Heap) : Option Value → Heap → List Loc → Prop := fun v h L => v = none ∧ (∀ y ∈ L, y.base = a) ∧ Keep h0 h [a] ∧ own_AJ Z h a vs
/-- a body that makes an array and hands it back -/
def own_KM (Z : State) (ty : FieldType) (vs : List Int32) (h0 : Heap) : Option Value → Heap → List Loc → Prop := fun v h L => ∃ b, v = some (.ref b) ∧ L = [] ∧ Keep h0 h [] ∧ h0.size ≤ b ∧ own_AI Z h b ty vs
/-- a store over a local that held nothing or one word -/
theorem o_istoreNS (X : Stand p l e R s m args below meth c T locs cells slots) (hx : p.tables.exec = Jvm.exec) {k : Fin 4} {o : Slot} (hd : decode c.code pc = .ok (.istore_n k, 1)) (hold : Ls[k.val]? = some o) (ho : One o) (hl : Ls.setIfInBounds k.val (.val (.int x)) = l') (hp : pc + 1 = pc') (q : own_Go p e below Q T (mkF m pc' l' rest)) : own_Go p e below Q T (mkF m pc Ls (.int x :: rest)) := by
  subst hp hl; exact own_go (fun t k' => XS.istoreNS X.here hx rfl hd rfl hold ho k') q
theorem o_istoreS (X : Stand p l e R s m args below meth c T locs cells slots) (hx : p.tables.exec = Jvm.exec) {k : Nat} {o : Slot} (hd : decode c.code pc = .ok (.istore k, 2)) (hold : Ls[k]? = some o) (ho : One o) (hl : Ls.setIfInBounds k (.val (.int x)) = l') (hp : pc + 2 = pc') (q : own_Go p e below Q T (mkF m pc' l' rest)) : own_Go p e below Q T (mkF m pc Ls (.int x :: rest)) := by
  subst hp hl; exact own_go (fun t k' => XS.istoreS X.here hx rfl hd rfl hold ho k') q
theorem o_astoreS (X : Stand p l e R s m args below meth c T locs cells slots) (hx : p.tables.exec = Jvm.exec) {k : Nat} {o : Slot} {v : Value} (hd : decode c.code pc = .ok (.astore k, 2)) (hv : v.isRef = true) (hcat : v.category = 1) (hold : Ls[k]? = some o) (ho : One o) (hl : Ls.setIfInBounds k (.val v) = l') (hp : pc + 2 = pc') (q : own_Go p e below Q T (mkF m pc' l' rest)) : own_Go p e below Q T (mkF m pc Ls (v :: rest)) := by
  subst hp hl; exact own_go (fun t k' => XS.astoreS X.here hx rfl hd rfl hv hcat hold ho k') q
end OwnKit
theorem pd_0 : parseMethodDescriptor "(I)Z" = some ⟨[.int], some .boolean⟩ := by decide +kernel
theorem d1_0 : decode method_2_code 0 = .ok (.iload_n 0, 1) := by decide +kernel
theorem d1_1 : decode method_2_code 1 = .ok (.bipush 65, 2) := by decide +kernel
theorem d1_3 : decode method_2_code 3 = .ok (.if_icmp .ge 5, 3) := by decide +kernel
theorem d1_6 : decode method_2_code 6 = .ok (.iconst 1, 1) := by decide +kernel
theorem d1_7 : decode method_2_code 7 = .ok (.ireturn, 1) := by decide +kernel
theorem d1_8 : decode method_2_code 8 = .ok (.iload_n 0, 1) := by decide +kernel
theorem d1_9 : decode method_2_code 9 = .ok (.bipush 91, 2) := by decide +kernel
theorem d1_11 : decode method_2_code 11 = .ok (.if_icmp .lt 11, 3) := by decide +kernel
theorem d1_14 : decode method_2_code 14 = .ok (.iload_n 0, 1) := by decide +kernel
theorem d1_15 : decode method_2_code 15 = .ok (.bipush 94, 2) := by decide +kernel
theorem d1_17 : decode method_2_code 17 = .ok (.if_icmp .gt 5, 3) := by decide +kernel
theorem d1_20 : decode method_2_code 20 = .ok (.iconst 1, 1) := by decide +kernel
theorem d1_21 : decode method_2_code 21 = .ok (.ireturn, 1) := by decide +kernel
theorem d1_22 : decode method_2_code 22 = .ok (.iload_n 0, 1) := by decide +kernel
theorem d1_23 : decode method_2_code 23 = .ok (.bipush 96, 2) := by decide +kernel
theorem d1_25 : decode method_2_code 25 = .ok (.if_icmp .ne 5, 3) := by decide +kernel
theorem d1_28 : decode method_2_code 28 = .ok (.iconst 1, 1) := by decide +kernel
theorem d1_29 : decode method_2_code 29 = .ok (.ireturn, 1) := by decide +kernel
theorem d1_30 : decode method_2_code 30 = .ok (.iload_n 0, 1) := by decide +kernel
theorem d1_31 : decode method_2_code 31 = .ok (.bipush 123, 2) := by decide +kernel
theorem d1_33 : decode method_2_code 33 = .ok (.if_icmp .lt 12, 3) := by decide +kernel
theorem d1_36 : decode method_2_code 36 = .ok (.iload_n 0, 1) := by decide +kernel
theorem d1_37 : decode method_2_code 37 = .ok (.sipush 191, 3) := by decide +kernel
theorem d1_40 : decode method_2_code 40 = .ok (.if_icmp .gt 5, 3) := by decide +kernel
theorem d1_43 : decode method_2_code 43 = .ok (.iconst 1, 1) := by decide +kernel
theorem d1_44 : decode method_2_code 44 = .ok (.ireturn, 1) := by decide +kernel
theorem d1_45 : decode method_2_code 45 = .ok (.iload_n 0, 1) := by decide +kernel
theorem d1_46 : decode method_2_code 46 = .ok (.sipush 215, 3) := by decide +kernel
theorem d1_49 : decode method_2_code 49 = .ok (.if_icmp .eq 10, 3) := by decide +kernel
theorem d1_52 : decode method_2_code 52 = .ok (.iload_n 0, 1) := by decide +kernel
theorem d1_53 : decode method_2_code 53 = .ok (.sipush 247, 3) := by decide +kernel
theorem d1_56 : decode method_2_code 56 = .ok (.if_icmp .ne 5, 3) := by decide +kernel
theorem d1_59 : decode method_2_code 59 = .ok (.iconst 1, 1) := by decide +kernel
theorem d1_60 : decode method_2_code 60 = .ok (.ireturn, 1) := by decide +kernel
theorem d1_61 : decode method_2_code 61 = .ok (.iload_n 0, 1) := by decide +kernel
theorem d1_62 : decode method_2_code 62 = .ok (.sipush 768, 3) := by decide +kernel
theorem d1_65 : decode method_2_code 65 = .ok (.if_icmp .lt 12, 3) := by decide +kernel
theorem d1_68 : decode method_2_code 68 = .ok (.iload_n 0, 1) := by decide +kernel
theorem d1_69 : decode method_2_code 69 = .ok (.sipush 879, 3) := by decide +kernel
theorem d1_72 : decode method_2_code 72 = .ok (.if_icmp .gt 5, 3) := by decide +kernel
theorem d1_75 : decode method_2_code 75 = .ok (.iconst 1, 1) := by decide +kernel
theorem d1_76 : decode method_2_code 76 = .ok (.ireturn, 1) := by decide +kernel
theorem d1_77 : decode method_2_code 77 = .ok (.iload_n 0, 1) := by decide +kernel
theorem d1_78 : decode method_2_code 78 = .ok (.sipush 894, 3) := by decide +kernel
theorem d1_81 : decode method_2_code 81 = .ok (.if_icmp .ne 5, 3) := by decide +kernel
theorem d1_84 : decode method_2_code 84 = .ok (.iconst 1, 1) := by decide +kernel
theorem d1_85 : decode method_2_code 85 = .ok (.ireturn, 1) := by decide +kernel
theorem d1_86 : decode method_2_code 86 = .ok (.iload_n 0, 1) := by decide +kernel
theorem d1_87 : decode method_2_code 87 = .ok (.sipush 8192, 3) := by decide +kernel
theorem d1_90 : decode method_2_code 90 = .ok (.if_icmp .lt 12, 3) := by decide +kernel
theorem d1_93 : decode method_2_code 93 = .ok (.iload_n 0, 1) := by decide +kernel
theorem d1_94 : decode method_2_code 94 = .ok (.sipush 8203, 3) := by decide +kernel
theorem d1_97 : decode method_2_code 97 = .ok (.if_icmp .gt 5, 3) := by decide +kernel
theorem d1_100 : decode method_2_code 100 = .ok (.iconst 1, 1) := by decide +kernel
theorem d1_101 : decode method_2_code 101 = .ok (.ireturn, 1) := by decide +kernel
theorem d1_102 : decode method_2_code 102 = .ok (.iload_n 0, 1) := by decide +kernel
theorem d1_103 : decode method_2_code 103 = .ok (.sipush 8206, 3) := by decide +kernel
theorem d1_106 : decode method_2_code 106 = .ok (.if_icmp .lt 12, 3) := by decide +kernel
theorem d1_109 : decode method_2_code 109 = .ok (.iload_n 0, 1) := by decide +kernel
theorem d1_110 : decode method_2_code 110 = .ok (.sipush 8303, 3) := by decide +kernel
theorem d1_113 : decode method_2_code 113 = .ok (.if_icmp .gt 5, 3) := by decide +kernel
theorem d1_116 : decode method_2_code 116 = .ok (.iconst 1, 1) := by decide +kernel
theorem d1_117 : decode method_2_code 117 = .ok (.ireturn, 1) := by decide +kernel
theorem d1_118 : decode method_2_code 118 = .ok (.iload_n 0, 1) := by decide +kernel
theorem d1_119 : decode method_2_code 119 = .ok (.sipush 8592, 3) := by decide +kernel
theorem d1_122 : decode method_2_code 122 = .ok (.if_icmp .lt 12, 3) := by decide +kernel
theorem d1_125 : decode method_2_code 125 = .ok (.iload_n 0, 1) := by decide +kernel
theorem d1_126 : decode method_2_code 126 = .ok (.sipush 11263, 3) := by decide +kernel
theorem d1_129 : decode method_2_code 129 = .ok (.if_icmp .gt 5, 3) := by decide +kernel
theorem d1_132 : decode method_2_code 132 = .ok (.iconst 1, 1) := by decide +kernel
theorem d1_133 : decode method_2_code 133 = .ok (.ireturn, 1) := by decide +kernel
theorem d1_134 : decode method_2_code 134 = .ok (.iload_n 0, 1) := by decide +kernel
theorem d1_135 : decode method_2_code 135 = .ok (.sipush 12272, 3) := by decide +kernel
theorem d1_138 : decode method_2_code 138 = .ok (.if_icmp .lt 12, 3) := by decide +kernel
theorem d1_141 : decode method_2_code 141 = .ok (.iload_n 0, 1) := by decide +kernel
theorem d1_142 : decode method_2_code 142 = .ok (.sipush 12288, 3) := by decide +kernel
theorem d1_145 : decode method_2_code 145 = .ok (.if_icmp .gt 5, 3) := by decide +kernel
theorem d1_148 : decode method_2_code 148 = .ok (.iconst 1, 1) := by decide +kernel
theorem d1_149 : decode method_2_code 149 = .ok (.ireturn, 1) := by decide +kernel
theorem d1_150 : decode method_2_code 150 = .ok (.iload_n 0, 1) := by decide +kernel
theorem d1_151 : decode method_2_code 151 = .ok (.ldc 7, 2) := by decide +kernel
theorem d1_153 : decode method_2_code 153 = .ok (.if_icmp .lt 11, 3) := by decide +kernel
theorem d1_156 : decode method_2_code 156 = .ok (.iload_n 0, 1) := by decide +kernel
theorem d1_157 : decode method_2_code 157 = .ok (.ldc 8, 2) := by decide +kernel
theorem d1_159 : decode method_2_code 159 = .ok (.if_icmp .gt 5, 3) := by decide +kernel
theorem d1_162 : decode method_2_code 162 = .ok (.iconst 1, 1) := by decide +kernel
theorem d1_163 : decode method_2_code 163 = .ok (.ireturn, 1) := by decide +kernel
theorem d1_164 : decode method_2_code 164 = .ok (.iload_n 0, 1) := by decide +kernel
theorem d1_165 : decode method_2_code 165 = .ok (.ldc 9, 2) := by decide +kernel
theorem d1_167 : decode method_2_code 167 = .ok (.if_icmp .lt 11, 3) := by decide +kernel
theorem d1_170 : decode method_2_code 170 = .ok (.iload_n 0, 1) := by decide +kernel
theorem d1_171 : decode method_2_code 171 = .ok (.ldc 10, 2) := by decide +kernel
theorem d1_173 : decode method_2_code 173 = .ok (.if_icmp .gt 5, 3) := by decide +kernel
theorem d1_176 : decode method_2_code 176 = .ok (.iconst 1, 1) := by decide +kernel
theorem d1_177 : decode method_2_code 177 = .ok (.ireturn, 1) := by decide +kernel
theorem d1_178 : decode method_2_code 178 = .ok (.iload_n 0, 1) := by decide +kernel
theorem d1_179 : decode method_2_code 179 = .ok (.ldc 11, 2) := by decide +kernel
theorem d1_181 : decode method_2_code 181 = .ok (.if_icmp .lt 11, 3) := by decide +kernel
theorem d1_184 : decode method_2_code 184 = .ok (.iload_n 0, 1) := by decide +kernel
theorem d1_185 : decode method_2_code 185 = .ok (.ldc 12, 2) := by decide +kernel
theorem d1_187 : decode method_2_code 187 = .ok (.if_icmp .gt 5, 3) := by decide +kernel
theorem d1_190 : decode method_2_code 190 = .ok (.iconst 1, 1) := by decide +kernel
theorem d1_191 : decode method_2_code 191 = .ok (.ireturn, 1) := by decide +kernel
theorem d1_192 : decode method_2_code 192 = .ok (.iload_n 0, 1) := by decide +kernel
theorem d1_193 : decode method_2_code 193 = .ok (.ldc 13, 2) := by decide +kernel
theorem d1_195 : decode method_2_code 195 = .ok (.if_icmp .le 5, 3) := by decide +kernel
theorem d1_198 : decode method_2_code 198 = .ok (.iconst 1, 1) := by decide +kernel
theorem d1_199 : decode method_2_code 199 = .ok (.ireturn, 1) := by decide +kernel
theorem d1_200 : decode method_2_code 200 = .ok (.iconst 0, 1) := by decide +kernel
theorem d1_201 : decode method_2_code 201 = .ok (.ireturn, 1) := by decide +kernel
section Body1
variable {p : Program} {l : Launch} {e : Env} {s : State} {m : MethodId} {args : Array Value} {below : List Frame} {meth : Method} {c : Code} {Z : State} {ag : Array Value} {K : Option Value → Heap → List Loc → Prop}
abbrev R1 : Room := { frames := 0, cells := 0, slots := 0, locals := 0 }
abbrev cc1 : Nat := 0
abbrev ss1 : Nat := 0
def f1_59 : Int32 := (1 : Int32)
set_option maxRecDepth 65536 in
set_option maxHeartbeats 40000000 in
theorem b1_59 (C : own_Cx p s m meth c Z ag method_2_code 1 "com/example/emendix/emendix/XmlCharactersIsNameStartCharPinLaw" (some .boolean) "excluded") {T : State} {h : Heap} {z0 : Slot} (X : Stand p l e R1 s m args below meth c T [] 0 0) (eT : T.heap = h) (hz0 : One z0) (hK : K (some (.int (f1_59))) h []) : own_Go p e below (own_Q s K cc1 ss1) T (mkF m 59 #[z0] []) := by
  obtain ⟨hx, hZ, hw, hby, hml, hown, hret, hlk, hnm⟩ := id C
  unfold f1_59 at hK
  refine o_iconst (pc' := 60) (x := (1 : Int32)) X hx (hb hby d1_59) (by decide) rfl ?_
  exact o_retN X hx (t := .boolean) hret (by simp) hlk (hb hby d1_60) (by decide) (by decide) eT (hK)

def f1_192 (x0 : Int32) : Int32 := (if (983039 : Int32) < x0 then (1 : Int32) else (0 : Int32))
set_option maxRecDepth 65536 in
set_option maxHeartbeats 40000000 in
theorem b1_192 (C : own_Cx p s m meth c Z ag method_2_code 1 "com/example/emendix/emendix/XmlCharactersIsNameStartCharPinLaw" (some .boolean) "excluded") {T : State} {h : Heap} (x0 : Int32) (X : Stand p l e R1 s m args below meth c T [] 0 0) (eT : T.heap = h) (hK : K (some (.int (f1_192 x0))) h []) : own_Go p e below (own_Q s K cc1 ss1) T (mkF m 192 #[.val (.int x0)] []) := by
  obtain ⟨hx, hZ, hw, hby, hml, hown, hret, hlk, hnm⟩ := id C
  unfold f1_192 at hK
  refine o_iloadN (pc' := 193) X hx (hb hby d1_192) rfl rfl ?_
  refine o_ldcI (pc' := 195) X hx hZ hown (hw _ (List.mem_of_getElem? (i := 14) rfl)) (hb hby d1_193) rfl ?_
  refine o_icN (P := (983039 : Int32) < x0) (pc1 := 200) (pc2 := 198) X hx XT.ii_le_f XT.ii_le_t (hb hby d1_195) (by decide) (by decide) rfl (fun c16 => ?_) (fun c16 => ?_)
  · rw [if_neg c16] at hK
    refine o_iconst (pc' := 201) (x := (0 : Int32)) X hx (hb hby d1_200) (by decide) rfl ?_
    exact o_retN X hx (t := .boolean) hret (by simp) hlk (hb hby d1_201) (by decide) (by decide) eT (hK)
  · rw [if_pos c16] at hK
    refine o_iconst (pc' := 199) (x := (1 : Int32)) X hx (hb hby d1_198) (by decide) rfl ?_
    exact o_retN X hx (t := .boolean) hret (by simp) hlk (hb hby d1_199) (by decide) (by decide) eT (hK)

def f1_178 (x0 : Int32) : Int32 := (if x0 < (65534 : Int32) then (f1_192 x0) else (if (65535 : Int32) < x0 then (f1_192 x0) else (1 : Int32)))
set_option maxRecDepth 65536 in
set_option maxHeartbeats 40000000 in
theorem b1_178 (C : own_Cx p s m meth c Z ag method_2_code 1 "com/example/emendix/emendix/XmlCharactersIsNameStartCharPinLaw" (some .boolean) "excluded") {T : State} {h : Heap} (x0 : Int32) (X : Stand p l e R1 s m args below meth c T [] 0 0) (eT : T.heap = h) (hK : K (some (.int (f1_178 x0))) h []) : own_Go p e below (own_Q s K cc1 ss1) T (mkF m 178 #[.val (.int x0)] []) := by
  obtain ⟨hx, hZ, hw, hby, hml, hown, hret, hlk, hnm⟩ := id C
  unfold f1_178 at hK
  refine o_iloadN (pc' := 179) X hx (hb hby d1_178) rfl rfl ?_
  refine o_ldcI (pc' := 181) X hx hZ hown (hw _ (List.mem_of_getElem? (i := 13) rfl)) (hb hby d1_179) rfl ?_
  refine o_icP (P := x0 < (65534 : Int32)) (pc1 := 192) (pc2 := 184) X hx XT.ii_lt_t XT.ii_lt_f (hb hby d1_181) (by decide) (by decide) rfl (fun c15 => ?_) (fun c15 => ?_)
  · rw [if_pos c15] at hK
    exact b1_192 C x0 X eT hK
  · rw [if_neg c15] at hK
    refine o_iloadN (pc' := 185) X hx (hb hby d1_184) rfl rfl ?_
    refine o_ldcI (pc' := 187) X hx hZ hown (hw _ (List.mem_of_getElem? (i := 17) rfl)) (hb hby d1_185) rfl ?_
    refine o_icP (P := (65535 : Int32) < x0) (pc1 := 192) (pc2 := 190) X hx XT.ii_gt_t XT.ii_gt_f (hb hby d1_187) (by decide) (by decide) rfl (fun c17 => ?_) (fun c17 => ?_)
    · rw [if_pos c17] at hK
      exact b1_192 C x0 X eT hK
    · rw [if_neg c17] at hK
      refine o_iconst (pc' := 191) (x := (1 : Int32)) X hx (hb hby d1_190) (by decide) rfl ?_
      exact o_retN X hx (t := .boolean) hret (by simp) hlk (hb hby d1_191) (by decide) (by decide) eT (hK)

def f1_164 (x0 : Int32) : Int32 := (if x0 < (64976 : Int32) then (f1_178 x0) else (if (65007 : Int32) < x0 then (f1_178 x0) else (1 : Int32)))
set_option maxRecDepth 65536 in
set_option maxHeartbeats 40000000 in
theorem b1_164 (C : own_Cx p s m meth c Z ag method_2_code 1 "com/example/emendix/emendix/XmlCharactersIsNameStartCharPinLaw" (some .boolean) "excluded") {T : State} {h : Heap} (x0 : Int32) (X : Stand p l e R1 s m args below meth c T [] 0 0) (eT : T.heap = h) (hK : K (some (.int (f1_164 x0))) h []) : own_Go p e below (own_Q s K cc1 ss1) T (mkF m 164 #[.val (.int x0)] []) := by
  obtain ⟨hx, hZ, hw, hby, hml, hown, hret, hlk, hnm⟩ := id C
  unfold f1_164 at hK
  refine o_iloadN (pc' := 165) X hx (hb hby d1_164) rfl rfl ?_
  refine o_ldcI (pc' := 167) X hx hZ hown (hw _ (List.mem_of_getElem? (i := 12) rfl)) (hb hby d1_165) rfl ?_
  refine o_icP (P := x0 < (64976 : Int32)) (pc1 := 178) (pc2 := 170) X hx XT.ii_lt_t XT.ii_lt_f (hb hby d1_167) (by decide) (by decide) rfl (fun c14 => ?_) (fun c14 => ?_)
  · rw [if_pos c14] at hK
    exact b1_178 C x0 X eT hK
  · rw [if_neg c14] at hK
    refine o_iloadN (pc' := 171) X hx (hb hby d1_170) rfl rfl ?_
    refine o_ldcI (pc' := 173) X hx hZ hown (hw _ (List.mem_of_getElem? (i := 16) rfl)) (hb hby d1_171) rfl ?_
    refine o_icP (P := (65007 : Int32) < x0) (pc1 := 178) (pc2 := 176) X hx XT.ii_gt_t XT.ii_gt_f (hb hby d1_173) (by decide) (by decide) rfl (fun c18 => ?_) (fun c18 => ?_)
    · rw [if_pos c18] at hK
      exact b1_178 C x0 X eT hK
    · rw [if_neg c18] at hK
      refine o_iconst (pc' := 177) (x := (1 : Int32)) X hx (hb hby d1_176) (by decide) rfl ?_
      exact o_retN X hx (t := .boolean) hret (by simp) hlk (hb hby d1_177) (by decide) (by decide) eT (hK)

def f1_150 (x0 : Int32) : Int32 := (if x0 < (55296 : Int32) then (f1_164 x0) else (if (63743 : Int32) < x0 then (f1_164 x0) else (1 : Int32)))
set_option maxRecDepth 65536 in
set_option maxHeartbeats 40000000 in
theorem b1_150 (C : own_Cx p s m meth c Z ag method_2_code 1 "com/example/emendix/emendix/XmlCharactersIsNameStartCharPinLaw" (some .boolean) "excluded") {T : State} {h : Heap} (x0 : Int32) (X : Stand p l e R1 s m args below meth c T [] 0 0) (eT : T.heap = h) (hK : K (some (.int (f1_150 x0))) h []) : own_Go p e below (own_Q s K cc1 ss1) T (mkF m 150 #[.val (.int x0)] []) := by
  obtain ⟨hx, hZ, hw, hby, hml, hown, hret, hlk, hnm⟩ := id C
  unfold f1_150 at hK
  refine o_iloadN (pc' := 151) X hx (hb hby d1_150) rfl rfl ?_
  refine o_ldcI (pc' := 153) X hx hZ hown (hw _ (List.mem_of_getElem? (i := 11) rfl)) (hb hby d1_151) rfl ?_
  refine o_icP (P := x0 < (55296 : Int32)) (pc1 := 164) (pc2 := 156) X hx XT.ii_lt_t XT.ii_lt_f (hb hby d1_153) (by decide) (by decide) rfl (fun c13 => ?_) (fun c13 => ?_)
  · rw [if_pos c13] at hK
    exact b1_164 C x0 X eT hK
  · rw [if_neg c13] at hK
    refine o_iloadN (pc' := 157) X hx (hb hby d1_156) rfl rfl ?_
    refine o_ldcI (pc' := 159) X hx hZ hown (hw _ (List.mem_of_getElem? (i := 15) rfl)) (hb hby d1_157) rfl ?_
    refine o_icP (P := (63743 : Int32) < x0) (pc1 := 164) (pc2 := 162) X hx XT.ii_gt_t XT.ii_gt_f (hb hby d1_159) (by decide) (by decide) rfl (fun c19 => ?_) (fun c19 => ?_)
    · rw [if_pos c19] at hK
      exact b1_164 C x0 X eT hK
    · rw [if_neg c19] at hK
      refine o_iconst (pc' := 163) (x := (1 : Int32)) X hx (hb hby d1_162) (by decide) rfl ?_
      exact o_retN X hx (t := .boolean) hret (by simp) hlk (hb hby d1_163) (by decide) (by decide) eT (hK)

def f1_134 (x0 : Int32) : Int32 := (if x0 < (12272 : Int32) then (f1_150 x0) else (if (12288 : Int32) < x0 then (f1_150 x0) else (1 : Int32)))
set_option maxRecDepth 65536 in
set_option maxHeartbeats 40000000 in
theorem b1_134 (C : own_Cx p s m meth c Z ag method_2_code 1 "com/example/emendix/emendix/XmlCharactersIsNameStartCharPinLaw" (some .boolean) "excluded") {T : State} {h : Heap} (x0 : Int32) (X : Stand p l e R1 s m args below meth c T [] 0 0) (eT : T.heap = h) (hK : K (some (.int (f1_134 x0))) h []) : own_Go p e below (own_Q s K cc1 ss1) T (mkF m 134 #[.val (.int x0)] []) := by
  obtain ⟨hx, hZ, hw, hby, hml, hown, hret, hlk, hnm⟩ := id C
  unfold f1_134 at hK
  refine o_iloadN (pc' := 135) X hx (hb hby d1_134) rfl rfl ?_
  refine o_sipush (pc' := 138) (x := (12272 : Int32)) X hx (hb hby d1_135) (by decide) rfl ?_
  refine o_icP (P := x0 < (12272 : Int32)) (pc1 := 150) (pc2 := 141) X hx XT.ii_lt_t XT.ii_lt_f (hb hby d1_138) (by decide) (by decide) rfl (fun c12 => ?_) (fun c12 => ?_)
  · rw [if_pos c12] at hK
    exact b1_150 C x0 X eT hK
  · rw [if_neg c12] at hK
    refine o_iloadN (pc' := 142) X hx (hb hby d1_141) rfl rfl ?_
    refine o_sipush (pc' := 145) (x := (12288 : Int32)) X hx (hb hby d1_142) (by decide) rfl ?_
    refine o_icP (P := (12288 : Int32) < x0) (pc1 := 150) (pc2 := 148) X hx XT.ii_gt_t XT.ii_gt_f (hb hby d1_145) (by decide) (by decide) rfl (fun c20 => ?_) (fun c20 => ?_)
    · rw [if_pos c20] at hK
      exact b1_150 C x0 X eT hK
    · rw [if_neg c20] at hK
      refine o_iconst (pc' := 149) (x := (1 : Int32)) X hx (hb hby d1_148) (by decide) rfl ?_
      exact o_retN X hx (t := .boolean) hret (by simp) hlk (hb hby d1_149) (by decide) (by decide) eT (hK)

def f1_118 (x0 : Int32) : Int32 := (if x0 < (8592 : Int32) then (f1_134 x0) else (if (11263 : Int32) < x0 then (f1_134 x0) else (1 : Int32)))
set_option maxRecDepth 65536 in
set_option maxHeartbeats 40000000 in
theorem b1_118 (C : own_Cx p s m meth c Z ag method_2_code 1 "com/example/emendix/emendix/XmlCharactersIsNameStartCharPinLaw" (some .boolean) "excluded") {T : State} {h : Heap} (x0 : Int32) (X : Stand p l e R1 s m args below meth c T [] 0 0) (eT : T.heap = h) (hK : K (some (.int (f1_118 x0))) h []) : own_Go p e below (own_Q s K cc1 ss1) T (mkF m 118 #[.val (.int x0)] []) := by
  obtain ⟨hx, hZ, hw, hby, hml, hown, hret, hlk, hnm⟩ := id C
  unfold f1_118 at hK
  refine o_iloadN (pc' := 119) X hx (hb hby d1_118) rfl rfl ?_
  refine o_sipush (pc' := 122) (x := (8592 : Int32)) X hx (hb hby d1_119) (by decide) rfl ?_
  refine o_icP (P := x0 < (8592 : Int32)) (pc1 := 134) (pc2 := 125) X hx XT.ii_lt_t XT.ii_lt_f (hb hby d1_122) (by decide) (by decide) rfl (fun c11 => ?_) (fun c11 => ?_)
  · rw [if_pos c11] at hK
    exact b1_134 C x0 X eT hK
  · rw [if_neg c11] at hK
    refine o_iloadN (pc' := 126) X hx (hb hby d1_125) rfl rfl ?_
    refine o_sipush (pc' := 129) (x := (11263 : Int32)) X hx (hb hby d1_126) (by decide) rfl ?_
    refine o_icP (P := (11263 : Int32) < x0) (pc1 := 134) (pc2 := 132) X hx XT.ii_gt_t XT.ii_gt_f (hb hby d1_129) (by decide) (by decide) rfl (fun c21 => ?_) (fun c21 => ?_)
    · rw [if_pos c21] at hK
      exact b1_134 C x0 X eT hK
    · rw [if_neg c21] at hK
      refine o_iconst (pc' := 133) (x := (1 : Int32)) X hx (hb hby d1_132) (by decide) rfl ?_
      exact o_retN X hx (t := .boolean) hret (by simp) hlk (hb hby d1_133) (by decide) (by decide) eT (hK)

def f1_102 (x0 : Int32) : Int32 := (if x0 < (8206 : Int32) then (f1_118 x0) else (if (8303 : Int32) < x0 then (f1_118 x0) else (1 : Int32)))
set_option maxRecDepth 65536 in
set_option maxHeartbeats 40000000 in
theorem b1_102 (C : own_Cx p s m meth c Z ag method_2_code 1 "com/example/emendix/emendix/XmlCharactersIsNameStartCharPinLaw" (some .boolean) "excluded") {T : State} {h : Heap} (x0 : Int32) (X : Stand p l e R1 s m args below meth c T [] 0 0) (eT : T.heap = h) (hK : K (some (.int (f1_102 x0))) h []) : own_Go p e below (own_Q s K cc1 ss1) T (mkF m 102 #[.val (.int x0)] []) := by
  obtain ⟨hx, hZ, hw, hby, hml, hown, hret, hlk, hnm⟩ := id C
  unfold f1_102 at hK
  refine o_iloadN (pc' := 103) X hx (hb hby d1_102) rfl rfl ?_
  refine o_sipush (pc' := 106) (x := (8206 : Int32)) X hx (hb hby d1_103) (by decide) rfl ?_
  refine o_icP (P := x0 < (8206 : Int32)) (pc1 := 118) (pc2 := 109) X hx XT.ii_lt_t XT.ii_lt_f (hb hby d1_106) (by decide) (by decide) rfl (fun c10 => ?_) (fun c10 => ?_)
  · rw [if_pos c10] at hK
    exact b1_118 C x0 X eT hK
  · rw [if_neg c10] at hK
    refine o_iloadN (pc' := 110) X hx (hb hby d1_109) rfl rfl ?_
    refine o_sipush (pc' := 113) (x := (8303 : Int32)) X hx (hb hby d1_110) (by decide) rfl ?_
    refine o_icP (P := (8303 : Int32) < x0) (pc1 := 118) (pc2 := 116) X hx XT.ii_gt_t XT.ii_gt_f (hb hby d1_113) (by decide) (by decide) rfl (fun c22 => ?_) (fun c22 => ?_)
    · rw [if_pos c22] at hK
      exact b1_118 C x0 X eT hK
    · rw [if_neg c22] at hK
      refine o_iconst (pc' := 117) (x := (1 : Int32)) X hx (hb hby d1_116) (by decide) rfl ?_
      exact o_retN X hx (t := .boolean) hret (by simp) hlk (hb hby d1_117) (by decide) (by decide) eT (hK)

def f1_77 (x0 : Int32) : Int32 := (if x0 = (894 : Int32) then (1 : Int32) else (if x0 < (8192 : Int32) then (f1_102 x0) else (if (8203 : Int32) < x0 then (f1_102 x0) else (1 : Int32))))
set_option maxRecDepth 65536 in
set_option maxHeartbeats 40000000 in
theorem b1_77 (C : own_Cx p s m meth c Z ag method_2_code 1 "com/example/emendix/emendix/XmlCharactersIsNameStartCharPinLaw" (some .boolean) "excluded") {T : State} {h : Heap} (x0 : Int32) (X : Stand p l e R1 s m args below meth c T [] 0 0) (eT : T.heap = h) (hK : K (some (.int (f1_77 x0))) h []) : own_Go p e below (own_Q s K cc1 ss1) T (mkF m 77 #[.val (.int x0)] []) := by
  obtain ⟨hx, hZ, hw, hby, hml, hown, hret, hlk, hnm⟩ := id C
  unfold f1_77 at hK
  refine o_iloadN (pc' := 78) X hx (hb hby d1_77) rfl rfl ?_
  refine o_sipush (pc' := 81) (x := (894 : Int32)) X hx (hb hby d1_78) (by decide) rfl ?_
  refine o_icN (P := x0 = (894 : Int32)) (pc1 := 86) (pc2 := 84) X hx XT.ii_ne_f XT.ii_ne_t (hb hby d1_81) (by decide) (by decide) rfl (fun c8 => ?_) (fun c8 => ?_)
  · rw [if_neg c8] at hK
    refine o_iloadN (pc' := 87) X hx (hb hby d1_86) rfl rfl ?_
    refine o_sipush (pc' := 90) (x := (8192 : Int32)) X hx (hb hby d1_87) (by decide) rfl ?_
    refine o_icP (P := x0 < (8192 : Int32)) (pc1 := 102) (pc2 := 93) X hx XT.ii_lt_t XT.ii_lt_f (hb hby d1_90) (by decide) (by decide) rfl (fun c9 => ?_) (fun c9 => ?_)
    · rw [if_pos c9] at hK
      exact b1_102 C x0 X eT hK
    · rw [if_neg c9] at hK
      refine o_iloadN (pc' := 94) X hx (hb hby d1_93) rfl rfl ?_
      refine o_sipush (pc' := 97) (x := (8203 : Int32)) X hx (hb hby d1_94) (by decide) rfl ?_
      refine o_icP (P := (8203 : Int32) < x0) (pc1 := 102) (pc2 := 100) X hx XT.ii_gt_t XT.ii_gt_f (hb hby d1_97) (by decide) (by decide) rfl (fun c23 => ?_) (fun c23 => ?_)
      · rw [if_pos c23] at hK
        exact b1_102 C x0 X eT hK
      · rw [if_neg c23] at hK
        refine o_iconst (pc' := 101) (x := (1 : Int32)) X hx (hb hby d1_100) (by decide) rfl ?_
        exact o_retN X hx (t := .boolean) hret (by simp) hlk (hb hby d1_101) (by decide) (by decide) eT (hK)
  · rw [if_pos c8] at hK
    refine o_iconst (pc' := 85) (x := (1 : Int32)) X hx (hb hby d1_84) (by decide) rfl ?_
    exact o_retN X hx (t := .boolean) hret (by simp) hlk (hb hby d1_85) (by decide) (by decide) eT (hK)

def f1_45 (x0 : Int32) : Int32 := (if x0 = (215 : Int32) then f1_59 else (if x0 = (247 : Int32) then f1_59 else (if x0 < (768 : Int32) then (f1_77 x0) else (if (879 : Int32) < x0 then (f1_77 x0) else (1 : Int32)))))
set_option maxRecDepth 65536 in
set_option maxHeartbeats 40000000 in
theorem b1_45 (C : own_Cx p s m meth c Z ag method_2_code 1 "com/example/emendix/emendix/XmlCharactersIsNameStartCharPinLaw" (some .boolean) "excluded") {T : State} {h : Heap} (x0 : Int32) (X : Stand p l e R1 s m args below meth c T [] 0 0) (eT : T.heap = h) (hK : K (some (.int (f1_45 x0))) h []) : own_Go p e below (own_Q s K cc1 ss1) T (mkF m 45 #[.val (.int x0)] []) := by
  obtain ⟨hx, hZ, hw, hby, hml, hown, hret, hlk, hnm⟩ := id C
  unfold f1_45 at hK
  refine o_iloadN (pc' := 46) X hx (hb hby d1_45) rfl rfl ?_
  refine o_sipush (pc' := 49) (x := (215 : Int32)) X hx (hb hby d1_46) (by decide) rfl ?_
  refine o_icP (P := x0 = (215 : Int32)) (pc1 := 59) (pc2 := 52) X hx XT.ii_eq_t XT.ii_eq_f (hb hby d1_49) (by decide) (by decide) rfl (fun c5 => ?_) (fun c5 => ?_)
  · rw [if_pos c5] at hK
    exact b1_59 C X eT (One.val rfl) hK
  · rw [if_neg c5] at hK
    refine o_iloadN (pc' := 53) X hx (hb hby d1_52) rfl rfl ?_
    refine o_sipush (pc' := 56) (x := (247 : Int32)) X hx (hb hby d1_53) (by decide) rfl ?_
    refine o_icN (P := x0 = (247 : Int32)) (pc1 := 61) (pc2 := 59) X hx XT.ii_ne_f XT.ii_ne_t (hb hby d1_56) (by decide) (by decide) rfl (fun c6 => ?_) (fun c6 => ?_)
    · rw [if_neg c6] at hK
      refine o_iloadN (pc' := 62) X hx (hb hby d1_61) rfl rfl ?_
      refine o_sipush (pc' := 65) (x := (768 : Int32)) X hx (hb hby d1_62) (by decide) rfl ?_
      refine o_icP (P := x0 < (768 : Int32)) (pc1 := 77) (pc2 := 68) X hx XT.ii_lt_t XT.ii_lt_f (hb hby d1_65) (by decide) (by decide) rfl (fun c7 => ?_) (fun c7 => ?_)
      · rw [if_pos c7] at hK
        exact b1_77 C x0 X eT hK
      · rw [if_neg c7] at hK
        refine o_iloadN (pc' := 69) X hx (hb hby d1_68) rfl rfl ?_
        refine o_sipush (pc' := 72) (x := (879 : Int32)) X hx (hb hby d1_69) (by decide) rfl ?_
        refine o_icP (P := (879 : Int32) < x0) (pc1 := 77) (pc2 := 75) X hx XT.ii_gt_t XT.ii_gt_f (hb hby d1_72) (by decide) (by decide) rfl (fun c24 => ?_) (fun c24 => ?_)
        · rw [if_pos c24] at hK
          exact b1_77 C x0 X eT hK
        · rw [if_neg c24] at hK
          refine o_iconst (pc' := 76) (x := (1 : Int32)) X hx (hb hby d1_75) (by decide) rfl ?_
          exact o_retN X hx (t := .boolean) hret (by simp) hlk (hb hby d1_76) (by decide) (by decide) eT (hK)
    · rw [if_pos c6] at hK
      exact b1_59 C X eT (One.val rfl) hK

def f1_22 (x0 : Int32) : Int32 := (if x0 = (96 : Int32) then (1 : Int32) else (if x0 < (123 : Int32) then (f1_45 x0) else (if (191 : Int32) < x0 then (f1_45 x0) else (1 : Int32))))
set_option maxRecDepth 65536 in
set_option maxHeartbeats 40000000 in
theorem b1_22 (C : own_Cx p s m meth c Z ag method_2_code 1 "com/example/emendix/emendix/XmlCharactersIsNameStartCharPinLaw" (some .boolean) "excluded") {T : State} {h : Heap} (x0 : Int32) (X : Stand p l e R1 s m args below meth c T [] 0 0) (eT : T.heap = h) (hK : K (some (.int (f1_22 x0))) h []) : own_Go p e below (own_Q s K cc1 ss1) T (mkF m 22 #[.val (.int x0)] []) := by
  obtain ⟨hx, hZ, hw, hby, hml, hown, hret, hlk, hnm⟩ := id C
  unfold f1_22 at hK
  refine o_iloadN (pc' := 23) X hx (hb hby d1_22) rfl rfl ?_
  refine o_bipush (pc' := 25) (x := (96 : Int32)) X hx (hb hby d1_23) (by decide) rfl ?_
  refine o_icN (P := x0 = (96 : Int32)) (pc1 := 30) (pc2 := 28) X hx XT.ii_ne_f XT.ii_ne_t (hb hby d1_25) (by decide) (by decide) rfl (fun c3 => ?_) (fun c3 => ?_)
  · rw [if_neg c3] at hK
    refine o_iloadN (pc' := 31) X hx (hb hby d1_30) rfl rfl ?_
    refine o_bipush (pc' := 33) (x := (123 : Int32)) X hx (hb hby d1_31) (by decide) rfl ?_
    refine o_icP (P := x0 < (123 : Int32)) (pc1 := 45) (pc2 := 36) X hx XT.ii_lt_t XT.ii_lt_f (hb hby d1_33) (by decide) (by decide) rfl (fun c4 => ?_) (fun c4 => ?_)
    · rw [if_pos c4] at hK
      exact b1_45 C x0 X eT hK
    · rw [if_neg c4] at hK
      refine o_iloadN (pc' := 37) X hx (hb hby d1_36) rfl rfl ?_
      refine o_sipush (pc' := 40) (x := (191 : Int32)) X hx (hb hby d1_37) (by decide) rfl ?_
      refine o_icP (P := (191 : Int32) < x0) (pc1 := 45) (pc2 := 43) X hx XT.ii_gt_t XT.ii_gt_f (hb hby d1_40) (by decide) (by decide) rfl (fun c25 => ?_) (fun c25 => ?_)
      · rw [if_pos c25] at hK
        exact b1_45 C x0 X eT hK
      · rw [if_neg c25] at hK
        refine o_iconst (pc' := 44) (x := (1 : Int32)) X hx (hb hby d1_43) (by decide) rfl ?_
        exact o_retN X hx (t := .boolean) hret (by simp) hlk (hb hby d1_44) (by decide) (by decide) eT (hK)
  · rw [if_pos c3] at hK
    refine o_iconst (pc' := 29) (x := (1 : Int32)) X hx (hb hby d1_28) (by decide) rfl ?_
    exact o_retN X hx (t := .boolean) hret (by simp) hlk (hb hby d1_29) (by decide) (by decide) eT (hK)

def f1_0 (p0 : Int32) : Int32 := (if p0 < (65 : Int32) then (1 : Int32) else (if p0 < (91 : Int32) then (f1_22 p0) else (if (94 : Int32) < p0 then (f1_22 p0) else (1 : Int32))))
set_option maxRecDepth 65536 in
set_option maxHeartbeats 40000000 in
theorem b1_0 (C : own_Cx p s m meth c Z ag method_2_code 1 "com/example/emendix/emendix/XmlCharactersIsNameStartCharPinLaw" (some .boolean) "excluded") {T : State} {h : Heap} (p0 : Int32) (X : Stand p l e R1 s m args below meth c T [] 0 0) (eT : T.heap = h) (hK : K (some (.int (f1_0 p0))) h []) : own_Go p e below (own_Q s K cc1 ss1) T (mkF m 0 #[.val (.int p0)] []) := by
  obtain ⟨hx, hZ, hw, hby, hml, hown, hret, hlk, hnm⟩ := id C
  unfold f1_0 at hK
  refine o_iloadN (pc' := 1) X hx (hb hby d1_0) rfl rfl ?_
  refine o_bipush (pc' := 3) (x := (65 : Int32)) X hx (hb hby d1_1) (by decide) rfl ?_
  refine o_icN (P := p0 < (65 : Int32)) (pc1 := 8) (pc2 := 6) X hx XT.ii_ge_f XT.ii_ge_t (hb hby d1_3) (by decide) (by decide) rfl (fun c1 => ?_) (fun c1 => ?_)
  · rw [if_neg c1] at hK
    refine o_iloadN (pc' := 9) X hx (hb hby d1_8) rfl rfl ?_
    refine o_bipush (pc' := 11) (x := (91 : Int32)) X hx (hb hby d1_9) (by decide) rfl ?_
    refine o_icP (P := p0 < (91 : Int32)) (pc1 := 22) (pc2 := 14) X hx XT.ii_lt_t XT.ii_lt_f (hb hby d1_11) (by decide) (by decide) rfl (fun c2 => ?_) (fun c2 => ?_)
    · rw [if_pos c2] at hK
      exact b1_22 C p0 X eT hK
    · rw [if_neg c2] at hK
      refine o_iloadN (pc' := 15) X hx (hb hby d1_14) rfl rfl ?_
      refine o_bipush (pc' := 17) (x := (94 : Int32)) X hx (hb hby d1_15) (by decide) rfl ?_
      refine o_icP (P := (94 : Int32) < p0) (pc1 := 22) (pc2 := 20) X hx XT.ii_gt_t XT.ii_gt_f (hb hby d1_17) (by decide) (by decide) rfl (fun c26 => ?_) (fun c26 => ?_)
      · rw [if_pos c26] at hK
        exact b1_22 C p0 X eT hK
      · rw [if_neg c26] at hK
        refine o_iconst (pc' := 21) (x := (1 : Int32)) X hx (hb hby d1_20) (by decide) rfl ?_
        exact o_retN X hx (t := .boolean) hret (by simp) hlk (hb hby d1_21) (by decide) (by decide) eT (hK)
  · rw [if_pos c1] at hK
    refine o_iconst (pc' := 7) (x := (1 : Int32)) X hx (hb hby d1_6) (by decide) rfl ?_
    exact o_retN X hx (t := .boolean) hret (by simp) hlk (hb hby d1_7) (by decide) (by decide) eT (hK)

end Body1
theorem pn_XmlCharactersIsNameStartCharPinLaw : plainName "com/example/emendix/emendix/XmlCharactersIsNameStartCharPinLaw" = true := by first | (simp [plainName, overriddenIn]; done) | decide +kernel
theorem ef_1 (m : MethodId) (p0 : Int32) : entryFrame m #[(.int p0)] 1 = mkF m 0 #[.val (.int p0)] [] := by first | (simp [entryFrame, mkF, argsToLocals, Value.category]; done) | rfl
set_option maxRecDepth 65536 in
set_option maxHeartbeats 40000000 in
theorem rm1 (l : Launch) (Z : State) (ag : Array Value) (hw : ∀ d ∈ tables_1, d.before ag Z = true) (ws : List Jvm.Cond) (p0 : Int32) (h0 : Heap) :
    MetFree l (⟨"com/example/emendix/emendix/XmlCharactersIsNameStartCharPinLaw", "excluded", "(I)Z"⟩ : MethodName) (head1 (Jvm.Cond.code (⟨"com/example/emendix/emendix/XmlCharactersIsNameStartCharPinLaw", "excluded", "(I)Z"⟩ : MethodName) method_2_code 1 (some .boolean) :: ws) R1) (fun a U => a = #[(.int p0)] ∧ Z.Warmed39 U.vm ∧ U.heap = h0) (fun _ _ _ _ _ => True) (fun _ U o U' => ∃ v L, o = .returned v ∧ own_KP (some (.int (f1_0 p0))) h0 v U'.heap L ∧ FrameEnd U o U' L R1.cells R1.slots) := by
  refine MetFree.of_bodySF (plainFor_of_name pn_XmlCharactersIsNameStartCharPinLaw) hisR ?_
  intro p e s m args below meth c s₁ Bd hml0 hP hK
  obtain ⟨rfl, hZ, hh⟩ := hP
  have C : own_Cx p s m meth c Z ag method_2_code 1 "com/example/emendix/emendix/XmlCharactersIsNameStartCharPinLaw" (some .boolean) "excluded" := ⟨Bd.exec, hZ, hw, Bd.bytes, hml0, findClass_of_methodNamed Bd.named, Bd.returns, Bd.notSynchronized, (name_of_methodNamed Bd.named Bd.method).1⟩
  have X0 : Stand p l e R1 s m #[(.int p0)] below meth c s₁ [] 0 0 := Stand.of_body Bd
  have e0 : s₁.heap = h0 := by rw [← hh, Bd.state]; rfl
  rw [ef_1]
  exact b1_0 (K := own_KP (some (.int (f1_0 p0))) h0) C p0 X0 e0 ⟨rfl, rfl, rfl⟩

theorem d2_0 : decode prog_175_method_5_code 0 = .ok (.iload_n 0, 1) := by decide +kernel
theorem d2_1 : decode prog_175_method_5_code 1 = .ok (.bipush 65, 2) := by decide +kernel
theorem d2_3 : decode prog_175_method_5_code 3 = .ok (.if_icmp .lt 9, 3) := by decide +kernel
theorem d2_6 : decode prog_175_method_5_code 6 = .ok (.iload_n 0, 1) := by decide +kernel
theorem d2_7 : decode prog_175_method_5_code 7 = .ok (.bipush 90, 2) := by decide +kernel
theorem d2_9 : decode prog_175_method_5_code 9 = .ok (.if_icmp .le 182, 3) := by decide +kernel
theorem d2_12 : decode prog_175_method_5_code 12 = .ok (.iload_n 0, 1) := by decide +kernel
theorem d2_13 : decode prog_175_method_5_code 13 = .ok (.bipush 95, 2) := by decide +kernel
theorem d2_15 : decode prog_175_method_5_code 15 = .ok (.if_icmp .eq 176, 3) := by decide +kernel
theorem d2_18 : decode prog_175_method_5_code 18 = .ok (.iload_n 0, 1) := by decide +kernel
theorem d2_19 : decode prog_175_method_5_code 19 = .ok (.bipush 97, 2) := by decide +kernel
theorem d2_21 : decode prog_175_method_5_code 21 = .ok (.if_icmp .lt 9, 3) := by decide +kernel
theorem d2_24 : decode prog_175_method_5_code 24 = .ok (.iload_n 0, 1) := by decide +kernel
theorem d2_25 : decode prog_175_method_5_code 25 = .ok (.bipush 122, 2) := by decide +kernel
theorem d2_27 : decode prog_175_method_5_code 27 = .ok (.if_icmp .le 164, 3) := by decide +kernel
theorem d2_30 : decode prog_175_method_5_code 30 = .ok (.iload_n 0, 1) := by decide +kernel
theorem d2_31 : decode prog_175_method_5_code 31 = .ok (.sipush 192, 3) := by decide +kernel
theorem d2_34 : decode prog_175_method_5_code 34 = .ok (.if_icmp .lt 10, 3) := by decide +kernel
theorem d2_37 : decode prog_175_method_5_code 37 = .ok (.iload_n 0, 1) := by decide +kernel
theorem d2_38 : decode prog_175_method_5_code 38 = .ok (.sipush 214, 3) := by decide +kernel
theorem d2_41 : decode prog_175_method_5_code 41 = .ok (.if_icmp .le 150, 3) := by decide +kernel
theorem d2_44 : decode prog_175_method_5_code 44 = .ok (.iload_n 0, 1) := by decide +kernel
theorem d2_45 : decode prog_175_method_5_code 45 = .ok (.sipush 216, 3) := by decide +kernel
theorem d2_48 : decode prog_175_method_5_code 48 = .ok (.if_icmp .lt 10, 3) := by decide +kernel
theorem d2_51 : decode prog_175_method_5_code 51 = .ok (.iload_n 0, 1) := by decide +kernel
theorem d2_52 : decode prog_175_method_5_code 52 = .ok (.sipush 246, 3) := by decide +kernel
theorem d2_55 : decode prog_175_method_5_code 55 = .ok (.if_icmp .le 136, 3) := by decide +kernel
theorem d2_58 : decode prog_175_method_5_code 58 = .ok (.iload_n 0, 1) := by decide +kernel
theorem d2_59 : decode prog_175_method_5_code 59 = .ok (.sipush 248, 3) := by decide +kernel
theorem d2_62 : decode prog_175_method_5_code 62 = .ok (.if_icmp .lt 10, 3) := by decide +kernel
theorem d2_65 : decode prog_175_method_5_code 65 = .ok (.iload_n 0, 1) := by decide +kernel
theorem d2_66 : decode prog_175_method_5_code 66 = .ok (.sipush 767, 3) := by decide +kernel
theorem d2_69 : decode prog_175_method_5_code 69 = .ok (.if_icmp .le 122, 3) := by decide +kernel
theorem d2_72 : decode prog_175_method_5_code 72 = .ok (.iload_n 0, 1) := by decide +kernel
theorem d2_73 : decode prog_175_method_5_code 73 = .ok (.sipush 880, 3) := by decide +kernel
theorem d2_76 : decode prog_175_method_5_code 76 = .ok (.if_icmp .lt 10, 3) := by decide +kernel
theorem d2_79 : decode prog_175_method_5_code 79 = .ok (.iload_n 0, 1) := by decide +kernel
theorem d2_80 : decode prog_175_method_5_code 80 = .ok (.sipush 893, 3) := by decide +kernel
theorem d2_83 : decode prog_175_method_5_code 83 = .ok (.if_icmp .le 108, 3) := by decide +kernel
theorem d2_86 : decode prog_175_method_5_code 86 = .ok (.iload_n 0, 1) := by decide +kernel
theorem d2_87 : decode prog_175_method_5_code 87 = .ok (.sipush 895, 3) := by decide +kernel
theorem d2_90 : decode prog_175_method_5_code 90 = .ok (.if_icmp .lt 10, 3) := by decide +kernel
theorem d2_93 : decode prog_175_method_5_code 93 = .ok (.iload_n 0, 1) := by decide +kernel
theorem d2_94 : decode prog_175_method_5_code 94 = .ok (.sipush 8191, 3) := by decide +kernel
theorem d2_97 : decode prog_175_method_5_code 97 = .ok (.if_icmp .le 94, 3) := by decide +kernel
theorem d2_100 : decode prog_175_method_5_code 100 = .ok (.iload_n 0, 1) := by decide +kernel
theorem d2_101 : decode prog_175_method_5_code 101 = .ok (.sipush 8204, 3) := by decide +kernel
theorem d2_104 : decode prog_175_method_5_code 104 = .ok (.if_icmp .lt 10, 3) := by decide +kernel
theorem d2_107 : decode prog_175_method_5_code 107 = .ok (.iload_n 0, 1) := by decide +kernel
theorem d2_108 : decode prog_175_method_5_code 108 = .ok (.sipush 8205, 3) := by decide +kernel
theorem d2_111 : decode prog_175_method_5_code 111 = .ok (.if_icmp .le 80, 3) := by decide +kernel
theorem d2_114 : decode prog_175_method_5_code 114 = .ok (.iload_n 0, 1) := by decide +kernel
theorem d2_115 : decode prog_175_method_5_code 115 = .ok (.sipush 8304, 3) := by decide +kernel
theorem d2_118 : decode prog_175_method_5_code 118 = .ok (.if_icmp .lt 10, 3) := by decide +kernel
theorem d2_121 : decode prog_175_method_5_code 121 = .ok (.iload_n 0, 1) := by decide +kernel
theorem d2_122 : decode prog_175_method_5_code 122 = .ok (.sipush 8591, 3) := by decide +kernel
theorem d2_125 : decode prog_175_method_5_code 125 = .ok (.if_icmp .le 66, 3) := by decide +kernel
theorem d2_128 : decode prog_175_method_5_code 128 = .ok (.iload_n 0, 1) := by decide +kernel
theorem d2_129 : decode prog_175_method_5_code 129 = .ok (.sipush 11264, 3) := by decide +kernel
theorem d2_132 : decode prog_175_method_5_code 132 = .ok (.if_icmp .lt 10, 3) := by decide +kernel
theorem d2_135 : decode prog_175_method_5_code 135 = .ok (.iload_n 0, 1) := by decide +kernel
theorem d2_136 : decode prog_175_method_5_code 136 = .ok (.sipush 12271, 3) := by decide +kernel
theorem d2_139 : decode prog_175_method_5_code 139 = .ok (.if_icmp .le 52, 3) := by decide +kernel
theorem d2_142 : decode prog_175_method_5_code 142 = .ok (.iload_n 0, 1) := by decide +kernel
theorem d2_143 : decode prog_175_method_5_code 143 = .ok (.sipush 12289, 3) := by decide +kernel
theorem d2_146 : decode prog_175_method_5_code 146 = .ok (.if_icmp .lt 9, 3) := by decide +kernel
theorem d2_149 : decode prog_175_method_5_code 149 = .ok (.iload_n 0, 1) := by decide +kernel
theorem d2_150 : decode prog_175_method_5_code 150 = .ok (.ldc 7, 2) := by decide +kernel
theorem d2_152 : decode prog_175_method_5_code 152 = .ok (.if_icmp .le 39, 3) := by decide +kernel
theorem d2_155 : decode prog_175_method_5_code 155 = .ok (.iload_n 0, 1) := by decide +kernel
theorem d2_156 : decode prog_175_method_5_code 156 = .ok (.ldc 28, 2) := by decide +kernel
theorem d2_158 : decode prog_175_method_5_code 158 = .ok (.if_icmp .lt 9, 3) := by decide +kernel
theorem d2_161 : decode prog_175_method_5_code 161 = .ok (.iload_n 0, 1) := by decide +kernel
theorem d2_162 : decode prog_175_method_5_code 162 = .ok (.ldc 29, 2) := by decide +kernel
theorem d2_164 : decode prog_175_method_5_code 164 = .ok (.if_icmp .le 27, 3) := by decide +kernel
theorem d2_167 : decode prog_175_method_5_code 167 = .ok (.iload_n 0, 1) := by decide +kernel
theorem d2_168 : decode prog_175_method_5_code 168 = .ok (.ldc 30, 2) := by decide +kernel
theorem d2_170 : decode prog_175_method_5_code 170 = .ok (.if_icmp .lt 9, 3) := by decide +kernel
theorem d2_173 : decode prog_175_method_5_code 173 = .ok (.iload_n 0, 1) := by decide +kernel
theorem d2_174 : decode prog_175_method_5_code 174 = .ok (.ldc 9, 2) := by decide +kernel
theorem d2_176 : decode prog_175_method_5_code 176 = .ok (.if_icmp .le 15, 3) := by decide +kernel
theorem d2_179 : decode prog_175_method_5_code 179 = .ok (.iload_n 0, 1) := by decide +kernel
theorem d2_180 : decode prog_175_method_5_code 180 = .ok (.ldc 10, 2) := by decide +kernel
theorem d2_182 : decode prog_175_method_5_code 182 = .ok (.if_icmp .lt 13, 3) := by decide +kernel
theorem d2_185 : decode prog_175_method_5_code 185 = .ok (.iload_n 0, 1) := by decide +kernel
theorem d2_186 : decode prog_175_method_5_code 186 = .ok (.ldc 31, 2) := by decide +kernel
theorem d2_188 : decode prog_175_method_5_code 188 = .ok (.if_icmp .gt 7, 3) := by decide +kernel
theorem d2_191 : decode prog_175_method_5_code 191 = .ok (.iconst 1, 1) := by decide +kernel
theorem d2_192 : decode prog_175_method_5_code 192 = .ok (.goto 4, 3) := by decide +kernel
theorem d2_195 : decode prog_175_method_5_code 195 = .ok (.iconst 0, 1) := by decide +kernel
theorem d2_196 : decode prog_175_method_5_code 196 = .ok (.ireturn, 1) := by decide +kernel
section Body2
variable {p : Program} {l : Launch} {e : Env} {s : State} {m : MethodId} {args : Array Value} {below : List Frame} {meth : Method} {c : Code} {Z : State} {ag : Array Value} {K : Option Value → Heap → List Loc → Prop}
abbrev R2 : Room := { frames := 0, cells := 0, slots := 0, locals := 0 }
abbrev cc2 : Nat := 0
abbrev ss2 : Nat := 0
def f2_196 : Int32 := (1 : Int32)
set_option maxRecDepth 65536 in
set_option maxHeartbeats 40000000 in
theorem b2_196 (C : own_Cx p s m meth c Z ag prog_175_method_5_code 1 "com/example/emendix/emendix/XmlCharacters" (some .boolean) "isNameStartChar") {T : State} {h : Heap} {z0 : Slot} (X : Stand p l e R2 s m args below meth c T [] 0 0) (eT : T.heap = h) (hz0 : One z0) (hK : K (some (.int (f2_196))) h []) : own_Go p e below (own_Q s K cc2 ss2) T (mkF m 196 #[z0] [(.int (1 : Int32))]) := by
  obtain ⟨hx, hZ, hw, hby, hml, hown, hret, hlk, hnm⟩ := id C
  unfold f2_196 at hK
  exact o_retN X hx (t := .boolean) hret (by simp) hlk (hb hby d2_196) (by decide) (by decide) eT (hK)

def f2_191 : Int32 := f2_196
set_option maxRecDepth 65536 in
set_option maxHeartbeats 40000000 in
theorem b2_191 (C : own_Cx p s m meth c Z ag prog_175_method_5_code 1 "com/example/emendix/emendix/XmlCharacters" (some .boolean) "isNameStartChar") {T : State} {h : Heap} {z0 : Slot} (X : Stand p l e R2 s m args below meth c T [] 0 0) (eT : T.heap = h) (hz0 : One z0) (hK : K (some (.int (f2_191))) h []) : own_Go p e below (own_Q s K cc2 ss2) T (mkF m 191 #[z0] []) := by
  obtain ⟨hx, hZ, hw, hby, hml, hown, hret, hlk, hnm⟩ := id C
  unfold f2_191 at hK
  refine o_iconst (pc' := 192) (x := (1 : Int32)) X hx (hb hby d2_191) (by decide) rfl ?_
  refine o_goto (pc' := 196) X hx (hb hby d2_192) (by decide) (by decide) ?_
  exact b2_196 C X eT hz0 hK

def f2_196_17 : Int32 := (0 : Int32)
set_option maxRecDepth 65536 in
set_option maxHeartbeats 40000000 in
theorem b2_196_17 (C : own_Cx p s m meth c Z ag prog_175_method_5_code 1 "com/example/emendix/emendix/XmlCharacters" (some .boolean) "isNameStartChar") {T : State} {h : Heap} {z0 : Slot} (X : Stand p l e R2 s m args below meth c T [] 0 0) (eT : T.heap = h) (hz0 : One z0) (hK : K (some (.int (f2_196_17))) h []) : own_Go p e below (own_Q s K cc2 ss2) T (mkF m 196 #[z0] [(.int (0 : Int32))]) := by
  obtain ⟨hx, hZ, hw, hby, hml, hown, hret, hlk, hnm⟩ := id C
  unfold f2_196_17 at hK
  exact o_retN X hx (t := .boolean) hret (by simp) hlk (hb hby d2_196) (by decide) (by decide) eT (hK)

def f2_195 : Int32 := f2_196_17
set_option maxRecDepth 65536 in
set_option maxHeartbeats 40000000 in
theorem b2_195 (C : own_Cx p s m meth c Z ag prog_175_method_5_code 1 "com/example/emendix/emendix/XmlCharacters" (some .boolean) "isNameStartChar") {T : State} {h : Heap} {z0 : Slot} (X : Stand p l e R2 s m args below meth c T [] 0 0) (eT : T.heap = h) (hz0 : One z0) (hK : K (some (.int (f2_195))) h []) : own_Go p e below (own_Q s K cc2 ss2) T (mkF m 195 #[z0] []) := by
  obtain ⟨hx, hZ, hw, hby, hml, hown, hret, hlk, hnm⟩ := id C
  unfold f2_195 at hK
  refine o_iconst (pc' := 196) (x := (0 : Int32)) X hx (hb hby d2_195) (by decide) rfl ?_
  exact b2_196_17 C X eT hz0 hK

def f2_179 (x0 : Int32) : Int32 := (if x0 < (65536 : Int32) then f2_195 else (if (983039 : Int32) < x0 then f2_195 else f2_191))
set_option maxRecDepth 65536 in
set_option maxHeartbeats 40000000 in
theorem b2_179 (C : own_Cx p s m meth c Z ag prog_175_method_5_code 1 "com/example/emendix/emendix/XmlCharacters" (some .boolean) "isNameStartChar") {T : State} {h : Heap} (x0 : Int32) (X : Stand p l e R2 s m args below meth c T [] 0 0) (eT : T.heap = h) (hK : K (some (.int (f2_179 x0))) h []) : own_Go p e below (own_Q s K cc2 ss2) T (mkF m 179 #[.val (.int x0)] []) := by
  obtain ⟨hx, hZ, hw, hby, hml, hown, hret, hlk, hnm⟩ := id C
  unfold f2_179 at hK
  refine o_iloadN (pc' := 180) X hx (hb hby d2_179) rfl rfl ?_
  refine o_ldcI (pc' := 182) X hx hZ hown (hw _ (List.mem_of_getElem? (i := 10) rfl)) (hb hby d2_180) rfl ?_
  refine o_icP (P := x0 < (65536 : Int32)) (pc1 := 195) (pc2 := 185) X hx XT.ii_lt_t XT.ii_lt_f (hb hby d2_182) (by decide) (by decide) rfl (fun c41 => ?_) (fun c41 => ?_)
  · rw [if_pos c41] at hK
    exact b2_195 C X eT (One.val rfl) hK
  · rw [if_neg c41] at hK
    refine o_iloadN (pc' := 186) X hx (hb hby d2_185) rfl rfl ?_
    refine o_ldcI (pc' := 188) X hx hZ hown (hw _ (List.mem_of_getElem? (i := 21) rfl)) (hb hby d2_186) rfl ?_
    refine o_icP (P := (983039 : Int32) < x0) (pc1 := 195) (pc2 := 191) X hx XT.ii_gt_t XT.ii_gt_f (hb hby d2_188) (by decide) (by decide) rfl (fun c42 => ?_) (fun c42 => ?_)
    · rw [if_pos c42] at hK
      exact b2_195 C X eT (One.val rfl) hK
    · rw [if_neg c42] at hK
      exact b2_191 C X eT (One.val rfl) hK

def f2_167 (x0 : Int32) : Int32 := (if x0 < (65008 : Int32) then (f2_179 x0) else (if (65533 : Int32) < x0 then (f2_179 x0) else f2_191))
set_option maxRecDepth 65536 in
set_option maxHeartbeats 40000000 in
theorem b2_167 (C : own_Cx p s m meth c Z ag prog_175_method_5_code 1 "com/example/emendix/emendix/XmlCharacters" (some .boolean) "isNameStartChar") {T : State} {h : Heap} (x0 : Int32) (X : Stand p l e R2 s m args below meth c T [] 0 0) (eT : T.heap = h) (hK : K (some (.int (f2_167 x0))) h []) : own_Go p e below (own_Q s K cc2 ss2) T (mkF m 167 #[.val (.int x0)] []) := by
  obtain ⟨hx, hZ, hw, hby, hml, hown, hret, hlk, hnm⟩ := id C
  unfold f2_167 at hK
  refine o_iloadN (pc' := 168) X hx (hb hby d2_167) rfl rfl ?_
  refine o_ldcI (pc' := 170) X hx hZ hown (hw _ (List.mem_of_getElem? (i := 9) rfl)) (hb hby d2_168) rfl ?_
  refine o_icP (P := x0 < (65008 : Int32)) (pc1 := 179) (pc2 := 173) X hx XT.ii_lt_t XT.ii_lt_f (hb hby d2_170) (by decide) (by decide) rfl (fun c40 => ?_) (fun c40 => ?_)
  · rw [if_pos c40] at hK
    exact b2_179 C x0 X eT hK
  · rw [if_neg c40] at hK
    refine o_iloadN (pc' := 174) X hx (hb hby d2_173) rfl rfl ?_
    refine o_ldcI (pc' := 176) X hx hZ hown (hw _ (List.mem_of_getElem? (i := 20) rfl)) (hb hby d2_174) rfl ?_
    refine o_icN (P := (65533 : Int32) < x0) (pc1 := 191) (pc2 := 179) X hx XT.ii_le_f XT.ii_le_t (hb hby d2_176) (by decide) (by decide) rfl (fun c43 => ?_) (fun c43 => ?_)
    · rw [if_neg c43] at hK
      exact b2_191 C X eT (One.val rfl) hK
    · rw [if_pos c43] at hK
      exact b2_179 C x0 X eT hK

def f2_155 (x0 : Int32) : Int32 := (if x0 < (63744 : Int32) then (f2_167 x0) else (if (64975 : Int32) < x0 then (f2_167 x0) else f2_191))
set_option maxRecDepth 65536 in
set_option maxHeartbeats 40000000 in
theorem b2_155 (C : own_Cx p s m meth c Z ag prog_175_method_5_code 1 "com/example/emendix/emendix/XmlCharacters" (some .boolean) "isNameStartChar") {T : State} {h : Heap} (x0 : Int32) (X : Stand p l e R2 s m args below meth c T [] 0 0) (eT : T.heap = h) (hK : K (some (.int (f2_155 x0))) h []) : own_Go p e below (own_Q s K cc2 ss2) T (mkF m 155 #[.val (.int x0)] []) := by
  obtain ⟨hx, hZ, hw, hby, hml, hown, hret, hlk, hnm⟩ := id C
  unfold f2_155 at hK
  refine o_iloadN (pc' := 156) X hx (hb hby d2_155) rfl rfl ?_
  refine o_ldcI (pc' := 158) X hx hZ hown (hw _ (List.mem_of_getElem? (i := 8) rfl)) (hb hby d2_156) rfl ?_
  refine o_icP (P := x0 < (63744 : Int32)) (pc1 := 167) (pc2 := 161) X hx XT.ii_lt_t XT.ii_lt_f (hb hby d2_158) (by decide) (by decide) rfl (fun c39 => ?_) (fun c39 => ?_)
  · rw [if_pos c39] at hK
    exact b2_167 C x0 X eT hK
  · rw [if_neg c39] at hK
    refine o_iloadN (pc' := 162) X hx (hb hby d2_161) rfl rfl ?_
    refine o_ldcI (pc' := 164) X hx hZ hown (hw _ (List.mem_of_getElem? (i := 19) rfl)) (hb hby d2_162) rfl ?_
    refine o_icN (P := (64975 : Int32) < x0) (pc1 := 191) (pc2 := 167) X hx XT.ii_le_f XT.ii_le_t (hb hby d2_164) (by decide) (by decide) rfl (fun c44 => ?_) (fun c44 => ?_)
    · rw [if_neg c44] at hK
      exact b2_191 C X eT (One.val rfl) hK
    · rw [if_pos c44] at hK
      exact b2_167 C x0 X eT hK

def f2_142 (x0 : Int32) : Int32 := (if x0 < (12289 : Int32) then (f2_155 x0) else (if (55295 : Int32) < x0 then (f2_155 x0) else f2_191))
set_option maxRecDepth 65536 in
set_option maxHeartbeats 40000000 in
theorem b2_142 (C : own_Cx p s m meth c Z ag prog_175_method_5_code 1 "com/example/emendix/emendix/XmlCharacters" (some .boolean) "isNameStartChar") {T : State} {h : Heap} (x0 : Int32) (X : Stand p l e R2 s m args below meth c T [] 0 0) (eT : T.heap = h) (hK : K (some (.int (f2_142 x0))) h []) : own_Go p e below (own_Q s K cc2 ss2) T (mkF m 142 #[.val (.int x0)] []) := by
  obtain ⟨hx, hZ, hw, hby, hml, hown, hret, hlk, hnm⟩ := id C
  unfold f2_142 at hK
  refine o_iloadN (pc' := 143) X hx (hb hby d2_142) rfl rfl ?_
  refine o_sipush (pc' := 146) (x := (12289 : Int32)) X hx (hb hby d2_143) (by decide) rfl ?_
  refine o_icP (P := x0 < (12289 : Int32)) (pc1 := 155) (pc2 := 149) X hx XT.ii_lt_t XT.ii_lt_f (hb hby d2_146) (by decide) (by decide) rfl (fun c38 => ?_) (fun c38 => ?_)
  · rw [if_pos c38] at hK
    exact b2_155 C x0 X eT hK
  · rw [if_neg c38] at hK
    refine o_iloadN (pc' := 150) X hx (hb hby d2_149) rfl rfl ?_
    refine o_ldcI (pc' := 152) X hx hZ hown (hw _ (List.mem_of_getElem? (i := 18) rfl)) (hb hby d2_150) rfl ?_
    refine o_icN (P := (55295 : Int32) < x0) (pc1 := 191) (pc2 := 155) X hx XT.ii_le_f XT.ii_le_t (hb hby d2_152) (by decide) (by decide) rfl (fun c45 => ?_) (fun c45 => ?_)
    · rw [if_neg c45] at hK
      exact b2_191 C X eT (One.val rfl) hK
    · rw [if_pos c45] at hK
      exact b2_155 C x0 X eT hK

def f2_128 (x0 : Int32) : Int32 := (if x0 < (11264 : Int32) then (f2_142 x0) else (if (12271 : Int32) < x0 then (f2_142 x0) else f2_191))
set_option maxRecDepth 65536 in
set_option maxHeartbeats 40000000 in
theorem b2_128 (C : own_Cx p s m meth c Z ag prog_175_method_5_code 1 "com/example/emendix/emendix/XmlCharacters" (some .boolean) "isNameStartChar") {T : State} {h : Heap} (x0 : Int32) (X : Stand p l e R2 s m args below meth c T [] 0 0) (eT : T.heap = h) (hK : K (some (.int (f2_128 x0))) h []) : own_Go p e below (own_Q s K cc2 ss2) T (mkF m 128 #[.val (.int x0)] []) := by
  obtain ⟨hx, hZ, hw, hby, hml, hown, hret, hlk, hnm⟩ := id C
  unfold f2_128 at hK
  refine o_iloadN (pc' := 129) X hx (hb hby d2_128) rfl rfl ?_
  refine o_sipush (pc' := 132) (x := (11264 : Int32)) X hx (hb hby d2_129) (by decide) rfl ?_
  refine o_icP (P := x0 < (11264 : Int32)) (pc1 := 142) (pc2 := 135) X hx XT.ii_lt_t XT.ii_lt_f (hb hby d2_132) (by decide) (by decide) rfl (fun c37 => ?_) (fun c37 => ?_)
  · rw [if_pos c37] at hK
    exact b2_142 C x0 X eT hK
  · rw [if_neg c37] at hK
    refine o_iloadN (pc' := 136) X hx (hb hby d2_135) rfl rfl ?_
    refine o_sipush (pc' := 139) (x := (12271 : Int32)) X hx (hb hby d2_136) (by decide) rfl ?_
    refine o_icN (P := (12271 : Int32) < x0) (pc1 := 191) (pc2 := 142) X hx XT.ii_le_f XT.ii_le_t (hb hby d2_139) (by decide) (by decide) rfl (fun c46 => ?_) (fun c46 => ?_)
    · rw [if_neg c46] at hK
      exact b2_191 C X eT (One.val rfl) hK
    · rw [if_pos c46] at hK
      exact b2_142 C x0 X eT hK

def f2_114 (x0 : Int32) : Int32 := (if x0 < (8304 : Int32) then (f2_128 x0) else (if (8591 : Int32) < x0 then (f2_128 x0) else f2_191))
set_option maxRecDepth 65536 in
set_option maxHeartbeats 40000000 in
theorem b2_114 (C : own_Cx p s m meth c Z ag prog_175_method_5_code 1 "com/example/emendix/emendix/XmlCharacters" (some .boolean) "isNameStartChar") {T : State} {h : Heap} (x0 : Int32) (X : Stand p l e R2 s m args below meth c T [] 0 0) (eT : T.heap = h) (hK : K (some (.int (f2_114 x0))) h []) : own_Go p e below (own_Q s K cc2 ss2) T (mkF m 114 #[.val (.int x0)] []) := by
  obtain ⟨hx, hZ, hw, hby, hml, hown, hret, hlk, hnm⟩ := id C
  unfold f2_114 at hK
  refine o_iloadN (pc' := 115) X hx (hb hby d2_114) rfl rfl ?_
  refine o_sipush (pc' := 118) (x := (8304 : Int32)) X hx (hb hby d2_115) (by decide) rfl ?_
  refine o_icP (P := x0 < (8304 : Int32)) (pc1 := 128) (pc2 := 121) X hx XT.ii_lt_t XT.ii_lt_f (hb hby d2_118) (by decide) (by decide) rfl (fun c36 => ?_) (fun c36 => ?_)
  · rw [if_pos c36] at hK
    exact b2_128 C x0 X eT hK
  · rw [if_neg c36] at hK
    refine o_iloadN (pc' := 122) X hx (hb hby d2_121) rfl rfl ?_
    refine o_sipush (pc' := 125) (x := (8591 : Int32)) X hx (hb hby d2_122) (by decide) rfl ?_
    refine o_icN (P := (8591 : Int32) < x0) (pc1 := 191) (pc2 := 128) X hx XT.ii_le_f XT.ii_le_t (hb hby d2_125) (by decide) (by decide) rfl (fun c47 => ?_) (fun c47 => ?_)
    · rw [if_neg c47] at hK
      exact b2_191 C X eT (One.val rfl) hK
    · rw [if_pos c47] at hK
      exact b2_128 C x0 X eT hK

def f2_100 (x0 : Int32) : Int32 := (if x0 < (8204 : Int32) then (f2_114 x0) else (if (8205 : Int32) < x0 then (f2_114 x0) else f2_191))
set_option maxRecDepth 65536 in
set_option maxHeartbeats 40000000 in
theorem b2_100 (C : own_Cx p s m meth c Z ag prog_175_method_5_code 1 "com/example/emendix/emendix/XmlCharacters" (some .boolean) "isNameStartChar") {T : State} {h : Heap} (x0 : Int32) (X : Stand p l e R2 s m args below meth c T [] 0 0) (eT : T.heap = h) (hK : K (some (.int (f2_100 x0))) h []) : own_Go p e below (own_Q s K cc2 ss2) T (mkF m 100 #[.val (.int x0)] []) := by
  obtain ⟨hx, hZ, hw, hby, hml, hown, hret, hlk, hnm⟩ := id C
  unfold f2_100 at hK
  refine o_iloadN (pc' := 101) X hx (hb hby d2_100) rfl rfl ?_
  refine o_sipush (pc' := 104) (x := (8204 : Int32)) X hx (hb hby d2_101) (by decide) rfl ?_
  refine o_icP (P := x0 < (8204 : Int32)) (pc1 := 114) (pc2 := 107) X hx XT.ii_lt_t XT.ii_lt_f (hb hby d2_104) (by decide) (by decide) rfl (fun c35 => ?_) (fun c35 => ?_)
  · rw [if_pos c35] at hK
    exact b2_114 C x0 X eT hK
  · rw [if_neg c35] at hK
    refine o_iloadN (pc' := 108) X hx (hb hby d2_107) rfl rfl ?_
    refine o_sipush (pc' := 111) (x := (8205 : Int32)) X hx (hb hby d2_108) (by decide) rfl ?_
    refine o_icN (P := (8205 : Int32) < x0) (pc1 := 191) (pc2 := 114) X hx XT.ii_le_f XT.ii_le_t (hb hby d2_111) (by decide) (by decide) rfl (fun c48 => ?_) (fun c48 => ?_)
    · rw [if_neg c48] at hK
      exact b2_191 C X eT (One.val rfl) hK
    · rw [if_pos c48] at hK
      exact b2_114 C x0 X eT hK

def f2_86 (x0 : Int32) : Int32 := (if x0 < (895 : Int32) then (f2_100 x0) else (if (8191 : Int32) < x0 then (f2_100 x0) else f2_191))
set_option maxRecDepth 65536 in
set_option maxHeartbeats 40000000 in
theorem b2_86 (C : own_Cx p s m meth c Z ag prog_175_method_5_code 1 "com/example/emendix/emendix/XmlCharacters" (some .boolean) "isNameStartChar") {T : State} {h : Heap} (x0 : Int32) (X : Stand p l e R2 s m args below meth c T [] 0 0) (eT : T.heap = h) (hK : K (some (.int (f2_86 x0))) h []) : own_Go p e below (own_Q s K cc2 ss2) T (mkF m 86 #[.val (.int x0)] []) := by
  obtain ⟨hx, hZ, hw, hby, hml, hown, hret, hlk, hnm⟩ := id C
  unfold f2_86 at hK
  refine o_iloadN (pc' := 87) X hx (hb hby d2_86) rfl rfl ?_
  refine o_sipush (pc' := 90) (x := (895 : Int32)) X hx (hb hby d2_87) (by decide) rfl ?_
  refine o_icP (P := x0 < (895 : Int32)) (pc1 := 100) (pc2 := 93) X hx XT.ii_lt_t XT.ii_lt_f (hb hby d2_90) (by decide) (by decide) rfl (fun c34 => ?_) (fun c34 => ?_)
  · rw [if_pos c34] at hK
    exact b2_100 C x0 X eT hK
  · rw [if_neg c34] at hK
    refine o_iloadN (pc' := 94) X hx (hb hby d2_93) rfl rfl ?_
    refine o_sipush (pc' := 97) (x := (8191 : Int32)) X hx (hb hby d2_94) (by decide) rfl ?_
    refine o_icN (P := (8191 : Int32) < x0) (pc1 := 191) (pc2 := 100) X hx XT.ii_le_f XT.ii_le_t (hb hby d2_97) (by decide) (by decide) rfl (fun c49 => ?_) (fun c49 => ?_)
    · rw [if_neg c49] at hK
      exact b2_191 C X eT (One.val rfl) hK
    · rw [if_pos c49] at hK
      exact b2_100 C x0 X eT hK

def f2_72 (x0 : Int32) : Int32 := (if x0 < (880 : Int32) then (f2_86 x0) else (if (893 : Int32) < x0 then (f2_86 x0) else f2_191))
set_option maxRecDepth 65536 in
set_option maxHeartbeats 40000000 in
theorem b2_72 (C : own_Cx p s m meth c Z ag prog_175_method_5_code 1 "com/example/emendix/emendix/XmlCharacters" (some .boolean) "isNameStartChar") {T : State} {h : Heap} (x0 : Int32) (X : Stand p l e R2 s m args below meth c T [] 0 0) (eT : T.heap = h) (hK : K (some (.int (f2_72 x0))) h []) : own_Go p e below (own_Q s K cc2 ss2) T (mkF m 72 #[.val (.int x0)] []) := by
  obtain ⟨hx, hZ, hw, hby, hml, hown, hret, hlk, hnm⟩ := id C
  unfold f2_72 at hK
  refine o_iloadN (pc' := 73) X hx (hb hby d2_72) rfl rfl ?_
  refine o_sipush (pc' := 76) (x := (880 : Int32)) X hx (hb hby d2_73) (by decide) rfl ?_
  refine o_icP (P := x0 < (880 : Int32)) (pc1 := 86) (pc2 := 79) X hx XT.ii_lt_t XT.ii_lt_f (hb hby d2_76) (by decide) (by decide) rfl (fun c33 => ?_) (fun c33 => ?_)
  · rw [if_pos c33] at hK
    exact b2_86 C x0 X eT hK
  · rw [if_neg c33] at hK
    refine o_iloadN (pc' := 80) X hx (hb hby d2_79) rfl rfl ?_
    refine o_sipush (pc' := 83) (x := (893 : Int32)) X hx (hb hby d2_80) (by decide) rfl ?_
    refine o_icN (P := (893 : Int32) < x0) (pc1 := 191) (pc2 := 86) X hx XT.ii_le_f XT.ii_le_t (hb hby d2_83) (by decide) (by decide) rfl (fun c50 => ?_) (fun c50 => ?_)
    · rw [if_neg c50] at hK
      exact b2_191 C X eT (One.val rfl) hK
    · rw [if_pos c50] at hK
      exact b2_86 C x0 X eT hK

def f2_58 (x0 : Int32) : Int32 := (if x0 < (248 : Int32) then (f2_72 x0) else (if (767 : Int32) < x0 then (f2_72 x0) else f2_191))
set_option maxRecDepth 65536 in
set_option maxHeartbeats 40000000 in
theorem b2_58 (C : own_Cx p s m meth c Z ag prog_175_method_5_code 1 "com/example/emendix/emendix/XmlCharacters" (some .boolean) "isNameStartChar") {T : State} {h : Heap} (x0 : Int32) (X : Stand p l e R2 s m args below meth c T [] 0 0) (eT : T.heap = h) (hK : K (some (.int (f2_58 x0))) h []) : own_Go p e below (own_Q s K cc2 ss2) T (mkF m 58 #[.val (.int x0)] []) := by
  obtain ⟨hx, hZ, hw, hby, hml, hown, hret, hlk, hnm⟩ := id C
  unfold f2_58 at hK
  refine o_iloadN (pc' := 59) X hx (hb hby d2_58) rfl rfl ?_
  refine o_sipush (pc' := 62) (x := (248 : Int32)) X hx (hb hby d2_59) (by decide) rfl ?_
  refine o_icP (P := x0 < (248 : Int32)) (pc1 := 72) (pc2 := 65) X hx XT.ii_lt_t XT.ii_lt_f (hb hby d2_62) (by decide) (by decide) rfl (fun c32 => ?_) (fun c32 => ?_)
  · rw [if_pos c32] at hK
    exact b2_72 C x0 X eT hK
  · rw [if_neg c32] at hK
    refine o_iloadN (pc' := 66) X hx (hb hby d2_65) rfl rfl ?_
    refine o_sipush (pc' := 69) (x := (767 : Int32)) X hx (hb hby d2_66) (by decide) rfl ?_
    refine o_icN (P := (767 : Int32) < x0) (pc1 := 191) (pc2 := 72) X hx XT.ii_le_f XT.ii_le_t (hb hby d2_69) (by decide) (by decide) rfl (fun c51 => ?_) (fun c51 => ?_)
    · rw [if_neg c51] at hK
      exact b2_191 C X eT (One.val rfl) hK
    · rw [if_pos c51] at hK
      exact b2_72 C x0 X eT hK

def f2_44 (x0 : Int32) : Int32 := (if x0 < (216 : Int32) then (f2_58 x0) else (if (246 : Int32) < x0 then (f2_58 x0) else f2_191))
set_option maxRecDepth 65536 in
set_option maxHeartbeats 40000000 in
theorem b2_44 (C : own_Cx p s m meth c Z ag prog_175_method_5_code 1 "com/example/emendix/emendix/XmlCharacters" (some .boolean) "isNameStartChar") {T : State} {h : Heap} (x0 : Int32) (X : Stand p l e R2 s m args below meth c T [] 0 0) (eT : T.heap = h) (hK : K (some (.int (f2_44 x0))) h []) : own_Go p e below (own_Q s K cc2 ss2) T (mkF m 44 #[.val (.int x0)] []) := by
  obtain ⟨hx, hZ, hw, hby, hml, hown, hret, hlk, hnm⟩ := id C
  unfold f2_44 at hK
  refine o_iloadN (pc' := 45) X hx (hb hby d2_44) rfl rfl ?_
  refine o_sipush (pc' := 48) (x := (216 : Int32)) X hx (hb hby d2_45) (by decide) rfl ?_
  refine o_icP (P := x0 < (216 : Int32)) (pc1 := 58) (pc2 := 51) X hx XT.ii_lt_t XT.ii_lt_f (hb hby d2_48) (by decide) (by decide) rfl (fun c31 => ?_) (fun c31 => ?_)
  · rw [if_pos c31] at hK
    exact b2_58 C x0 X eT hK
  · rw [if_neg c31] at hK
    refine o_iloadN (pc' := 52) X hx (hb hby d2_51) rfl rfl ?_
    refine o_sipush (pc' := 55) (x := (246 : Int32)) X hx (hb hby d2_52) (by decide) rfl ?_
    refine o_icN (P := (246 : Int32) < x0) (pc1 := 191) (pc2 := 58) X hx XT.ii_le_f XT.ii_le_t (hb hby d2_55) (by decide) (by decide) rfl (fun c52 => ?_) (fun c52 => ?_)
    · rw [if_neg c52] at hK
      exact b2_191 C X eT (One.val rfl) hK
    · rw [if_pos c52] at hK
      exact b2_58 C x0 X eT hK

def f2_30 (x0 : Int32) : Int32 := (if x0 < (192 : Int32) then (f2_44 x0) else (if (214 : Int32) < x0 then (f2_44 x0) else f2_191))
set_option maxRecDepth 65536 in
set_option maxHeartbeats 40000000 in
theorem b2_30 (C : own_Cx p s m meth c Z ag prog_175_method_5_code 1 "com/example/emendix/emendix/XmlCharacters" (some .boolean) "isNameStartChar") {T : State} {h : Heap} (x0 : Int32) (X : Stand p l e R2 s m args below meth c T [] 0 0) (eT : T.heap = h) (hK : K (some (.int (f2_30 x0))) h []) : own_Go p e below (own_Q s K cc2 ss2) T (mkF m 30 #[.val (.int x0)] []) := by
  obtain ⟨hx, hZ, hw, hby, hml, hown, hret, hlk, hnm⟩ := id C
  unfold f2_30 at hK
  refine o_iloadN (pc' := 31) X hx (hb hby d2_30) rfl rfl ?_
  refine o_sipush (pc' := 34) (x := (192 : Int32)) X hx (hb hby d2_31) (by decide) rfl ?_
  refine o_icP (P := x0 < (192 : Int32)) (pc1 := 44) (pc2 := 37) X hx XT.ii_lt_t XT.ii_lt_f (hb hby d2_34) (by decide) (by decide) rfl (fun c30 => ?_) (fun c30 => ?_)
  · rw [if_pos c30] at hK
    exact b2_44 C x0 X eT hK
  · rw [if_neg c30] at hK
    refine o_iloadN (pc' := 38) X hx (hb hby d2_37) rfl rfl ?_
    refine o_sipush (pc' := 41) (x := (214 : Int32)) X hx (hb hby d2_38) (by decide) rfl ?_
    refine o_icN (P := (214 : Int32) < x0) (pc1 := 191) (pc2 := 44) X hx XT.ii_le_f XT.ii_le_t (hb hby d2_41) (by decide) (by decide) rfl (fun c53 => ?_) (fun c53 => ?_)
    · rw [if_neg c53] at hK
      exact b2_191 C X eT (One.val rfl) hK
    · rw [if_pos c53] at hK
      exact b2_44 C x0 X eT hK

def f2_12 (x0 : Int32) : Int32 := (if x0 = (95 : Int32) then f2_191 else (if x0 < (97 : Int32) then (f2_30 x0) else (if (122 : Int32) < x0 then (f2_30 x0) else f2_191)))
set_option maxRecDepth 65536 in
set_option maxHeartbeats 40000000 in
theorem b2_12 (C : own_Cx p s m meth c Z ag prog_175_method_5_code 1 "com/example/emendix/emendix/XmlCharacters" (some .boolean) "isNameStartChar") {T : State} {h : Heap} (x0 : Int32) (X : Stand p l e R2 s m args below meth c T [] 0 0) (eT : T.heap = h) (hK : K (some (.int (f2_12 x0))) h []) : own_Go p e below (own_Q s K cc2 ss2) T (mkF m 12 #[.val (.int x0)] []) := by
  obtain ⟨hx, hZ, hw, hby, hml, hown, hret, hlk, hnm⟩ := id C
  unfold f2_12 at hK
  refine o_iloadN (pc' := 13) X hx (hb hby d2_12) rfl rfl ?_
  refine o_bipush (pc' := 15) (x := (95 : Int32)) X hx (hb hby d2_13) (by decide) rfl ?_
  refine o_icP (P := x0 = (95 : Int32)) (pc1 := 191) (pc2 := 18) X hx XT.ii_eq_t XT.ii_eq_f (hb hby d2_15) (by decide) (by decide) rfl (fun c28 => ?_) (fun c28 => ?_)
  · rw [if_pos c28] at hK
    exact b2_191 C X eT (One.val rfl) hK
  · rw [if_neg c28] at hK
    refine o_iloadN (pc' := 19) X hx (hb hby d2_18) rfl rfl ?_
    refine o_bipush (pc' := 21) (x := (97 : Int32)) X hx (hb hby d2_19) (by decide) rfl ?_
    refine o_icP (P := x0 < (97 : Int32)) (pc1 := 30) (pc2 := 24) X hx XT.ii_lt_t XT.ii_lt_f (hb hby d2_21) (by decide) (by decide) rfl (fun c29 => ?_) (fun c29 => ?_)
    · rw [if_pos c29] at hK
      exact b2_30 C x0 X eT hK
    · rw [if_neg c29] at hK
      refine o_iloadN (pc' := 25) X hx (hb hby d2_24) rfl rfl ?_
      refine o_bipush (pc' := 27) (x := (122 : Int32)) X hx (hb hby d2_25) (by decide) rfl ?_
      refine o_icN (P := (122 : Int32) < x0) (pc1 := 191) (pc2 := 30) X hx XT.ii_le_f XT.ii_le_t (hb hby d2_27) (by decide) (by decide) rfl (fun c54 => ?_) (fun c54 => ?_)
      · rw [if_neg c54] at hK
        exact b2_191 C X eT (One.val rfl) hK
      · rw [if_pos c54] at hK
        exact b2_30 C x0 X eT hK

def f2_0 (p0 : Int32) : Int32 := (if p0 < (65 : Int32) then (f2_12 p0) else (if (90 : Int32) < p0 then (f2_12 p0) else f2_191))
set_option maxRecDepth 65536 in
set_option maxHeartbeats 40000000 in
theorem b2_0 (C : own_Cx p s m meth c Z ag prog_175_method_5_code 1 "com/example/emendix/emendix/XmlCharacters" (some .boolean) "isNameStartChar") {T : State} {h : Heap} (p0 : Int32) (X : Stand p l e R2 s m args below meth c T [] 0 0) (eT : T.heap = h) (hK : K (some (.int (f2_0 p0))) h []) : own_Go p e below (own_Q s K cc2 ss2) T (mkF m 0 #[.val (.int p0)] []) := by
  obtain ⟨hx, hZ, hw, hby, hml, hown, hret, hlk, hnm⟩ := id C
  unfold f2_0 at hK
  refine o_iloadN (pc' := 1) X hx (hb hby d2_0) rfl rfl ?_
  refine o_bipush (pc' := 3) (x := (65 : Int32)) X hx (hb hby d2_1) (by decide) rfl ?_
  refine o_icP (P := p0 < (65 : Int32)) (pc1 := 12) (pc2 := 6) X hx XT.ii_lt_t XT.ii_lt_f (hb hby d2_3) (by decide) (by decide) rfl (fun c27 => ?_) (fun c27 => ?_)
  · rw [if_pos c27] at hK
    exact b2_12 C p0 X eT hK
  · rw [if_neg c27] at hK
    refine o_iloadN (pc' := 7) X hx (hb hby d2_6) rfl rfl ?_
    refine o_bipush (pc' := 9) (x := (90 : Int32)) X hx (hb hby d2_7) (by decide) rfl ?_
    refine o_icN (P := (90 : Int32) < p0) (pc1 := 191) (pc2 := 12) X hx XT.ii_le_f XT.ii_le_t (hb hby d2_9) (by decide) (by decide) rfl (fun c55 => ?_) (fun c55 => ?_)
    · rw [if_neg c55] at hK
      exact b2_191 C X eT (One.val rfl) hK
    · rw [if_pos c55] at hK
      exact b2_12 C p0 X eT hK

end Body2
theorem pn_XmlCharacters : plainName "com/example/emendix/emendix/XmlCharacters" = true := by first | (simp [plainName, overriddenIn]; done) | decide +kernel
theorem ef_2 (m : MethodId) (p0 : Int32) : entryFrame m #[(.int p0)] 1 = mkF m 0 #[.val (.int p0)] [] := by first | (simp [entryFrame, mkF, argsToLocals, Value.category]; done) | rfl
set_option maxRecDepth 65536 in
set_option maxHeartbeats 40000000 in
theorem rm2 (l : Launch) (Z : State) (ag : Array Value) (hw : ∀ d ∈ tables_1, d.before ag Z = true) (ws : List Jvm.Cond) (p0 : Int32) (h0 : Heap) :
    MetFree l (⟨"com/example/emendix/emendix/XmlCharacters", "isNameStartChar", "(I)Z"⟩ : MethodName) (head1 (Jvm.Cond.code (⟨"com/example/emendix/emendix/XmlCharacters", "isNameStartChar", "(I)Z"⟩ : MethodName) prog_175_method_5_code 1 (some .boolean) :: ws) R2) (fun a U => a = #[(.int p0)] ∧ Z.Warmed39 U.vm ∧ U.heap = h0) (fun _ _ _ _ _ => True) (fun _ U o U' => ∃ v L, o = .returned v ∧ own_KP (some (.int (f2_0 p0))) h0 v U'.heap L ∧ FrameEnd U o U' L R2.cells R2.slots) := by
  refine MetFree.of_bodySF (plainFor_of_name pn_XmlCharacters) hisR ?_
  intro p e s m args below meth c s₁ Bd hml0 hP hK
  obtain ⟨rfl, hZ, hh⟩ := hP
  have C : own_Cx p s m meth c Z ag prog_175_method_5_code 1 "com/example/emendix/emendix/XmlCharacters" (some .boolean) "isNameStartChar" := ⟨Bd.exec, hZ, hw, Bd.bytes, hml0, findClass_of_methodNamed Bd.named, Bd.returns, Bd.notSynchronized, (name_of_methodNamed Bd.named Bd.method).1⟩
  have X0 : Stand p l e R2 s m #[(.int p0)] below meth c s₁ [] 0 0 := Stand.of_body Bd
  have e0 : s₁.heap = h0 := by rw [← hh, Bd.state]; rfl
  rw [ef_2]
  exact b2_0 (K := own_KP (some (.int (f2_0 p0))) h0) C p0 X0 e0 ⟨rfl, rfl, rfl⟩

section Body0
variable {p : Program} {l : Launch} {e : Env} {s : State} {m : MethodId} {args : Array Value} {below : List Frame} {meth : Method} {c : Code} {Z : State} {ag : Array Value} {K : Option Value → Heap → List Loc → Prop}
abbrev R0 : Room := room_1
abbrev cc0 : Nat := 0
abbrev ss0 : Nat := 0
def f0_26 : Int32 := (0 : Int32)
set_option maxRecDepth 65536 in
set_option maxHeartbeats 40000000 in
theorem b0_26 (C : own_Cx p s m meth c Z ag code maxLocals "com/example/emendix/emendix/XmlCharactersIsNameStartCharPinLaw" ret "law") {T : State} {h : Heap} {z0 : Slot} {z1 : Slot} (X : Stand p l e R0 s m args below meth c T [] 0 0) (eT : T.heap = h) (hz0 : One z0) (hz1 : One z1) (hK : ∀ h', K (some (.int (f0_26))) h' []) : own_Go p e below (own_Q s K cc0 ss0) T (mkF m 26 #[z0, z1] [(.int (0 : Int32))]) := by
  obtain ⟨hx, hZ, hw, hby, hml, hown, hret, hlk, hnm⟩ := id C
  unfold f0_26 at hK
  exact o_retN X hx (t := .boolean) hret (by simp) hlk (hb hby at_26) (by decide) (by decide) eT (hK _)

def f0_26_3 : Int32 := (1 : Int32)
set_option maxRecDepth 65536 in
set_option maxHeartbeats 40000000 in
theorem b0_26_3 (C : own_Cx p s m meth c Z ag code maxLocals "com/example/emendix/emendix/XmlCharactersIsNameStartCharPinLaw" ret "law") {T : State} {h : Heap} {z0 : Slot} {z1 : Slot} (X : Stand p l e R0 s m args below meth c T [] 0 0) (eT : T.heap = h) (hz0 : One z0) (hz1 : One z1) (hK : ∀ h', K (some (.int (f0_26_3))) h' []) : own_Go p e below (own_Q s K cc0 ss0) T (mkF m 26 #[z0, z1] [(.int (1 : Int32))]) := by
  obtain ⟨hx, hZ, hw, hby, hml, hown, hret, hlk, hnm⟩ := id C
  unfold f0_26_3 at hK
  exact o_retN X hx (t := .boolean) hret (by simp) hlk (hb hby at_26) (by decide) (by decide) eT (hK _)

def f0_12 (x0 : Int32) : Int32 := (if (f2_0 x0) = (0 : Int32) then f0_26_3 else f0_26)
set_option maxRecDepth 65536 in
set_option maxHeartbeats 40000000 in
theorem b0_12 (C : own_Cx p s m meth c Z ag code maxLocals "com/example/emendix/emendix/XmlCharactersIsNameStartCharPinLaw" ret "law") {T : State} {h : Heap} {z1 : Slot} (x0 : Int32) (X : Stand p l e R0 s m args below meth c T [] 0 0) (eT : T.heap = h) (hz1 : One z1) (hK : ∀ h', K (some (.int (f0_12 x0))) h' []) : own_Go p e below (own_Q s K cc0 ss0) T (mkF m 12 #[.val (.int x0), z1] [(.int (0 : Int32))]) := by
  obtain ⟨hx, hZ, hw, hby, hml, hown, hret, hlk, hnm⟩ := id C
  unfold f0_12 at hK
  refine o_istoreNS (pc' := 13) (l' := #[.val (.int x0), .val (.int (0 : Int32))]) X hx (hb hby at_12) rfl hz1 rfl rfl ?_
  refine o_iloadN (pc' := 14) X hx (hb hby at_13) rfl rfl ?_
  refine o_callP (pc' := 17) (argsL := [(.int x0)]) (rest := []) (st' := [(.int (f2_0 x0))]) X hx hZ eT hown (hw _ (List.mem_of_getElem? (i := 4) rfl)) (hw _ (List.mem_of_getElem? (i := 5) rfl)) (hw _ (List.mem_of_getElem? (i := 6) rfl)) (hw _ (List.mem_of_getElem? (i := 7) rfl)) (by decide) (rm2 l Z ag hw [] x0 h) (by decide) (by decide) (by rw [hml]; rfl) pd_0 rfl rfl rfl rfl (hb hby at_14) rfl rfl rfl (by decide) (by decide) rfl fun T58 X58 e58 => ?_
  refine o_iloadN (pc' := 18) X58 hx (hb hby at_17) rfl rfl ?_
  refine o_icN (P := (f2_0 x0) = (0 : Int32)) (pc1 := 25) (pc2 := 21) X58 hx XT.ii_ne_f XT.ii_ne_t (hb hby at_18) (by decide) (by decide) rfl (fun c59 => ?_) (fun c59 => ?_)
  · rw [if_neg c59] at hK
    refine o_iconst (pc' := 26) (x := (0 : Int32)) X58 hx (hb hby at_25) (by decide) rfl ?_
    exact b0_26 C X58 e58 (One.val rfl) (One.val rfl) hK
  · rw [if_pos c59] at hK
    refine o_iconst (pc' := 22) (x := (1 : Int32)) X58 hx (hb hby at_21) (by decide) rfl ?_
    refine o_goto (pc' := 26) X58 hx (hb hby at_22) (by decide) (by decide) ?_
    exact b0_26_3 C X58 e58 (One.val rfl) (One.val rfl) hK

def f0_12_4 (x0 : Int32) : Int32 := (if (f2_0 x0) = (1 : Int32) then f0_26_3 else f0_26)
set_option maxRecDepth 65536 in
set_option maxHeartbeats 40000000 in
theorem b0_12_4 (C : own_Cx p s m meth c Z ag code maxLocals "com/example/emendix/emendix/XmlCharactersIsNameStartCharPinLaw" ret "law") {T : State} {h : Heap} {z1 : Slot} (x0 : Int32) (X : Stand p l e R0 s m args below meth c T [] 0 0) (eT : T.heap = h) (hz1 : One z1) (hK : ∀ h', K (some (.int (f0_12_4 x0))) h' []) : own_Go p e below (own_Q s K cc0 ss0) T (mkF m 12 #[.val (.int x0), z1] [(.int (1 : Int32))]) := by
  obtain ⟨hx, hZ, hw, hby, hml, hown, hret, hlk, hnm⟩ := id C
  unfold f0_12_4 at hK
  refine o_istoreNS (pc' := 13) (l' := #[.val (.int x0), .val (.int (1 : Int32))]) X hx (hb hby at_12) rfl hz1 rfl rfl ?_
  refine o_iloadN (pc' := 14) X hx (hb hby at_13) rfl rfl ?_
  refine o_callP (pc' := 17) (argsL := [(.int x0)]) (rest := []) (st' := [(.int (f2_0 x0))]) X hx hZ eT hown (hw _ (List.mem_of_getElem? (i := 4) rfl)) (hw _ (List.mem_of_getElem? (i := 5) rfl)) (hw _ (List.mem_of_getElem? (i := 6) rfl)) (hw _ (List.mem_of_getElem? (i := 7) rfl)) (by decide) (rm2 l Z ag hw [] x0 h) (by decide) (by decide) (by rw [hml]; rfl) pd_0 rfl rfl rfl rfl (hb hby at_14) rfl rfl rfl (by decide) (by decide) rfl fun T60 X60 e60 => ?_
  refine o_iloadN (pc' := 18) X60 hx (hb hby at_17) rfl rfl ?_
  refine o_icN (P := (f2_0 x0) = (1 : Int32)) (pc1 := 25) (pc2 := 21) X60 hx XT.ii_ne_f XT.ii_ne_t (hb hby at_18) (by decide) (by decide) rfl (fun c61 => ?_) (fun c61 => ?_)
  · rw [if_neg c61] at hK
    refine o_iconst (pc' := 26) (x := (0 : Int32)) X60 hx (hb hby at_25) (by decide) rfl ?_
    exact b0_26 C X60 e60 (One.val rfl) (One.val rfl) hK
  · rw [if_pos c61] at hK
    refine o_iconst (pc' := 22) (x := (1 : Int32)) X60 hx (hb hby at_21) (by decide) rfl ?_
    refine o_goto (pc' := 26) X60 hx (hb hby at_22) (by decide) (by decide) ?_
    exact b0_26_3 C X60 e60 (One.val rfl) (One.val rfl) hK

def f0_0 (p0 : Int32) : Int32 := (if (f1_0 p0) = (0 : Int32) then (f0_12_4 p0) else (f0_12 p0))
set_option maxRecDepth 65536 in
set_option maxHeartbeats 40000000 in
theorem b0_0 (C : own_Cx p s m meth c Z ag code maxLocals "com/example/emendix/emendix/XmlCharactersIsNameStartCharPinLaw" ret "law") {T : State} {h : Heap} (p0 : Int32) (X : Stand p l e R0 s m args below meth c T [] 0 0) (eT : T.heap = h) (hK : ∀ h', K (some (.int (f0_0 p0))) h' []) : own_Go p e below (own_Q s K cc0 ss0) T (mkF m 0 #[.val (.int p0), .unset] []) := by
  obtain ⟨hx, hZ, hw, hby, hml, hown, hret, hlk, hnm⟩ := id C
  unfold f0_0 at hK
  refine o_iloadN (pc' := 1) X hx (hb hby at_0) rfl rfl ?_
  refine o_callP (pc' := 4) (argsL := [(.int p0)]) (rest := []) (st' := [(.int (f1_0 p0))]) X hx hZ eT hown (hw _ (List.mem_of_getElem? (i := 0) rfl)) (hw _ (List.mem_of_getElem? (i := 1) rfl)) (hw _ (List.mem_of_getElem? (i := 2) rfl)) (hw _ (List.mem_of_getElem? (i := 3) rfl)) (by decide) (rm1 l Z ag hw [] p0 h) (by decide) (by decide) (by rw [hml]; rfl) pd_0 rfl rfl rfl rfl (hb hby at_1) rfl rfl rfl (by decide) (by decide) rfl fun T56 X56 e56 => ?_
  refine o_ifN (P := (f1_0 p0) = (0 : Int32)) (pc1 := 11) (pc2 := 7) X56 hx XT.i0_ne_f XT.i0_ne_t (hb hby at_4) (by decide) (by decide) rfl (fun c57 => ?_) (fun c57 => ?_)
  · rw [if_neg c57] at hK
    refine o_iconst (pc' := 12) (x := (0 : Int32)) X56 hx (hb hby at_11) (by decide) rfl ?_
    exact b0_12 C p0 X56 e56 One.u hK
  · rw [if_pos c57] at hK
    refine o_iconst (pc' := 8) (x := (1 : Int32)) X56 hx (hb hby at_7) (by decide) rfl ?_
    refine o_goto (pc' := 12) X56 hx (hb hby at_8) (by decide) (by decide) ?_
    exact b0_12_4 C p0 X56 e56 One.u hK

end Body0
theorem ef_0 (m : MethodId) (p0 : Int32) : entryFrame m #[(.int p0)] maxLocals = mkF m 0 #[.val (.int p0), .unset] [] := by first | (simp [entryFrame, mkF, argsToLocals, Value.category, maxLocals]; done) | rfl
set_option maxRecDepth 65536 in
set_option maxHeartbeats 40000000 in
theorem rm0 (l : Launch) (Z : State) (ag : Array Value) (hw : ∀ d ∈ tables_1, d.before ag Z = true) (ws : List Jvm.Cond) (p0 : Int32) (h0 : Heap) :
    MetFree l x (head1 (Jvm.Cond.code x code maxLocals ret :: ws) R0) (fun a U => a = #[(.int p0)] ∧ Z.Warmed39 U.vm ∧ U.heap = h0) (fun _ _ _ _ _ => True) (fun _ U o U' => ∃ v L, o = .returned v ∧ own_KL (some (.int (f0_0 p0))) v U'.heap L ∧ FrameEnd U o U' L cc0 ss0) := by
  refine MetFree.of_bodySF (plainFor_of_name pn_XmlCharactersIsNameStartCharPinLaw) hisR ?_
  intro p e s m args below meth c s₁ Bd hml0 hP hK
  obtain ⟨rfl, hZ, hh⟩ := hP
  have C : own_Cx p s m meth c Z ag code maxLocals "com/example/emendix/emendix/XmlCharactersIsNameStartCharPinLaw" ret "law" := ⟨Bd.exec, hZ, hw, Bd.bytes, hml0, findClass_of_methodNamed Bd.named, Bd.returns, Bd.notSynchronized, (name_of_methodNamed Bd.named Bd.method).1⟩
  have X0 : Stand p l e R0 s m #[(.int p0)] below meth c s₁ [] 0 0 := Stand.of_body Bd
  have e0 : s₁.heap = h0 := by rw [← hh, Bd.state]; rfl
  rw [ef_0]
  exact b0_0 (K := own_KL (some (.int (f0_0 p0)))) C p0 X0 e0 (fun _ => ⟨rfl, rfl⟩)

theorem own_ltc {x c : Int32} {k : Int} (hc : c.toInt = k) (h : x.toInt < k) : x < c := by rw [Int32.lt_iff_toInt_lt, hc]; exact h
theorem own_nltc {x c : Int32} {k : Int} (hc : c.toInt = k) (h : k ≤ x.toInt) : ¬ x < c := by rw [Int32.lt_iff_toInt_lt, hc]; omega
theorem own_clt {x c : Int32} {k : Int} (hc : c.toInt = k) (h : k < x.toInt) : c < x := by rw [Int32.lt_iff_toInt_lt, hc]; exact h
theorem own_nclt {x c : Int32} {k : Int} (hc : c.toInt = k) (h : x.toInt ≤ k) : ¬ c < x := by rw [Int32.lt_iff_toInt_lt, hc]; omega
theorem own_eqc {x c : Int32} {k : Int} (hc : c.toInt = k) (h : x.toInt = k) : x = c := by rw [← Int32.toInt_inj, hc]; exact h
theorem own_nec {x c : Int32} {k : Int} (hc : c.toInt = k) (h : x.toInt ≠ k) : ¬ x = c := by rw [← Int32.toInt_inj, hc]; exact h
theorem own_r0 (x : Int32) (h1 : -2147483648 ≤ x.toInt) (h2 : x.toInt ≤ 64) : f0_0 x = 1 := by
  have e1 : f1_0 x = 1 := by
    rw [f1_0,
      if_pos (own_ltc (x := x) (c := 65) (k := 65) rfl (by omega))]
  have e2 : f2_0 x = 0 := by
    rw [f2_0,
      if_pos (own_ltc (x := x) (c := 65) (k := 65) rfl (by omega)),
      f2_12,
      if_neg (own_nec (x := x) (c := 95) (k := 95) rfl (by omega)),
      if_pos (own_ltc (x := x) (c := 97) (k := 97) rfl (by omega)),
      f2_30,
      if_pos (own_ltc (x := x) (c := 192) (k := 192) rfl (by omega)),
      f2_44,
      if_pos (own_ltc (x := x) (c := 216) (k := 216) rfl (by omega)),
      f2_58,
      if_pos (own_ltc (x := x) (c := 248) (k := 248) rfl (by omega)),
      f2_72,
      if_pos (own_ltc (x := x) (c := 880) (k := 880) rfl (by omega)),
      f2_86,
      if_pos (own_ltc (x := x) (c := 895) (k := 895) rfl (by omega)),
      f2_100,
      if_pos (own_ltc (x := x) (c := 8204) (k := 8204) rfl (by omega)),
      f2_114,
      if_pos (own_ltc (x := x) (c := 8304) (k := 8304) rfl (by omega)),
      f2_128,
      if_pos (own_ltc (x := x) (c := 11264) (k := 11264) rfl (by omega)),
      f2_142,
      if_pos (own_ltc (x := x) (c := 12289) (k := 12289) rfl (by omega)),
      f2_155,
      if_pos (own_ltc (x := x) (c := 63744) (k := 63744) rfl (by omega)),
      f2_167,
      if_pos (own_ltc (x := x) (c := 65008) (k := 65008) rfl (by omega)),
      f2_179,
      if_pos (own_ltc (x := x) (c := 65536) (k := 65536) rfl (by omega)),
      f2_195,
      f2_196_17]
  rw [f0_0, e1]
  rw [if_neg (by decide), f0_12, e2, if_pos rfl]; rfl
theorem own_r1 (x : Int32) (h1 : 65 ≤ x.toInt) (h2 : x.toInt ≤ 90) : f0_0 x = 1 := by
  have e1 : f1_0 x = 0 := by
    rw [f1_0,
      if_neg (own_nltc (x := x) (c := 65) (k := 65) rfl (by omega)),
      if_pos (own_ltc (x := x) (c := 91) (k := 91) rfl (by omega)),
      f1_22,
      if_neg (own_nec (x := x) (c := 96) (k := 96) rfl (by omega)),
      if_pos (own_ltc (x := x) (c := 123) (k := 123) rfl (by omega)),
      f1_45,
      if_neg (own_nec (x := x) (c := 215) (k := 215) rfl (by omega)),
      if_neg (own_nec (x := x) (c := 247) (k := 247) rfl (by omega)),
      if_pos (own_ltc (x := x) (c := 768) (k := 768) rfl (by omega)),
      f1_77,
      if_neg (own_nec (x := x) (c := 894) (k := 894) rfl (by omega)),
      if_pos (own_ltc (x := x) (c := 8192) (k := 8192) rfl (by omega)),
      f1_102,
      if_pos (own_ltc (x := x) (c := 8206) (k := 8206) rfl (by omega)),
      f1_118,
      if_pos (own_ltc (x := x) (c := 8592) (k := 8592) rfl (by omega)),
      f1_134,
      if_pos (own_ltc (x := x) (c := 12272) (k := 12272) rfl (by omega)),
      f1_150,
      if_pos (own_ltc (x := x) (c := 55296) (k := 55296) rfl (by omega)),
      f1_164,
      if_pos (own_ltc (x := x) (c := 64976) (k := 64976) rfl (by omega)),
      f1_178,
      if_pos (own_ltc (x := x) (c := 65534) (k := 65534) rfl (by omega)),
      f1_192,
      if_neg (own_nclt (x := x) (c := 983039) (k := 983039) rfl (by omega))]
  have e2 : f2_0 x = 1 := by
    rw [f2_0,
      if_neg (own_nltc (x := x) (c := 65) (k := 65) rfl (by omega)),
      if_neg (own_nclt (x := x) (c := 90) (k := 90) rfl (by omega)),
      f2_191,
      f2_196]
  rw [f0_0, e1]
  rw [if_pos rfl, f0_12_4, e2, if_pos rfl]; rfl
theorem own_r2 (x : Int32) (h1 : 91 ≤ x.toInt) (h2 : x.toInt ≤ 94) : f0_0 x = 1 := by
  have e1 : f1_0 x = 1 := by
    rw [f1_0,
      if_neg (own_nltc (x := x) (c := 65) (k := 65) rfl (by omega)),
      if_neg (own_nltc (x := x) (c := 91) (k := 91) rfl (by omega)),
      if_neg (own_nclt (x := x) (c := 94) (k := 94) rfl (by omega))]
  have e2 : f2_0 x = 0 := by
    rw [f2_0,
      if_neg (own_nltc (x := x) (c := 65) (k := 65) rfl (by omega)),
      if_pos (own_clt (x := x) (c := 90) (k := 90) rfl (by omega)),
      f2_12,
      if_neg (own_nec (x := x) (c := 95) (k := 95) rfl (by omega)),
      if_pos (own_ltc (x := x) (c := 97) (k := 97) rfl (by omega)),
      f2_30,
      if_pos (own_ltc (x := x) (c := 192) (k := 192) rfl (by omega)),
      f2_44,
      if_pos (own_ltc (x := x) (c := 216) (k := 216) rfl (by omega)),
      f2_58,
      if_pos (own_ltc (x := x) (c := 248) (k := 248) rfl (by omega)),
      f2_72,
      if_pos (own_ltc (x := x) (c := 880) (k := 880) rfl (by omega)),
      f2_86,
      if_pos (own_ltc (x := x) (c := 895) (k := 895) rfl (by omega)),
      f2_100,
      if_pos (own_ltc (x := x) (c := 8204) (k := 8204) rfl (by omega)),
      f2_114,
      if_pos (own_ltc (x := x) (c := 8304) (k := 8304) rfl (by omega)),
      f2_128,
      if_pos (own_ltc (x := x) (c := 11264) (k := 11264) rfl (by omega)),
      f2_142,
      if_pos (own_ltc (x := x) (c := 12289) (k := 12289) rfl (by omega)),
      f2_155,
      if_pos (own_ltc (x := x) (c := 63744) (k := 63744) rfl (by omega)),
      f2_167,
      if_pos (own_ltc (x := x) (c := 65008) (k := 65008) rfl (by omega)),
      f2_179,
      if_pos (own_ltc (x := x) (c := 65536) (k := 65536) rfl (by omega)),
      f2_195,
      f2_196_17]
  rw [f0_0, e1]
  rw [if_neg (by decide), f0_12, e2, if_pos rfl]; rfl
theorem own_r3 (x : Int32) (h1 : 95 ≤ x.toInt) (h2 : x.toInt ≤ 95) : f0_0 x = 1 := by
  have e1 : f1_0 x = 0 := by
    rw [f1_0,
      if_neg (own_nltc (x := x) (c := 65) (k := 65) rfl (by omega)),
      if_neg (own_nltc (x := x) (c := 91) (k := 91) rfl (by omega)),
      if_pos (own_clt (x := x) (c := 94) (k := 94) rfl (by omega)),
      f1_22,
      if_neg (own_nec (x := x) (c := 96) (k := 96) rfl (by omega)),
      if_pos (own_ltc (x := x) (c := 123) (k := 123) rfl (by omega)),
      f1_45,
      if_neg (own_nec (x := x) (c := 215) (k := 215) rfl (by omega)),
      if_neg (own_nec (x := x) (c := 247) (k := 247) rfl (by omega)),
      if_pos (own_ltc (x := x) (c := 768) (k := 768) rfl (by omega)),
      f1_77,
      if_neg (own_nec (x := x) (c := 894) (k := 894) rfl (by omega)),
      if_pos (own_ltc (x := x) (c := 8192) (k := 8192) rfl (by omega)),
      f1_102,
      if_pos (own_ltc (x := x) (c := 8206) (k := 8206) rfl (by omega)),
      f1_118,
      if_pos (own_ltc (x := x) (c := 8592) (k := 8592) rfl (by omega)),
      f1_134,
      if_pos (own_ltc (x := x) (c := 12272) (k := 12272) rfl (by omega)),
      f1_150,
      if_pos (own_ltc (x := x) (c := 55296) (k := 55296) rfl (by omega)),
      f1_164,
      if_pos (own_ltc (x := x) (c := 64976) (k := 64976) rfl (by omega)),
      f1_178,
      if_pos (own_ltc (x := x) (c := 65534) (k := 65534) rfl (by omega)),
      f1_192,
      if_neg (own_nclt (x := x) (c := 983039) (k := 983039) rfl (by omega))]
  have e2 : f2_0 x = 1 := by
    rw [f2_0,
      if_neg (own_nltc (x := x) (c := 65) (k := 65) rfl (by omega)),
      if_pos (own_clt (x := x) (c := 90) (k := 90) rfl (by omega)),
      f2_12,
      if_pos (own_eqc (x := x) (c := 95) (k := 95) rfl (by omega)),
      f2_191,
      f2_196]
  rw [f0_0, e1]
  rw [if_pos rfl, f0_12_4, e2, if_pos rfl]; rfl
theorem own_r4 (x : Int32) (h1 : 96 ≤ x.toInt) (h2 : x.toInt ≤ 96) : f0_0 x = 1 := by
  have e1 : f1_0 x = 1 := by
    rw [f1_0,
      if_neg (own_nltc (x := x) (c := 65) (k := 65) rfl (by omega)),
      if_neg (own_nltc (x := x) (c := 91) (k := 91) rfl (by omega)),
      if_pos (own_clt (x := x) (c := 94) (k := 94) rfl (by omega)),
      f1_22,
      if_pos (own_eqc (x := x) (c := 96) (k := 96) rfl (by omega))]
  have e2 : f2_0 x = 0 := by
    rw [f2_0,
      if_neg (own_nltc (x := x) (c := 65) (k := 65) rfl (by omega)),
      if_pos (own_clt (x := x) (c := 90) (k := 90) rfl (by omega)),
      f2_12,
      if_neg (own_nec (x := x) (c := 95) (k := 95) rfl (by omega)),
      if_pos (own_ltc (x := x) (c := 97) (k := 97) rfl (by omega)),
      f2_30,
      if_pos (own_ltc (x := x) (c := 192) (k := 192) rfl (by omega)),
      f2_44,
      if_pos (own_ltc (x := x) (c := 216) (k := 216) rfl (by omega)),
      f2_58,
      if_pos (own_ltc (x := x) (c := 248) (k := 248) rfl (by omega)),
      f2_72,
      if_pos (own_ltc (x := x) (c := 880) (k := 880) rfl (by omega)),
      f2_86,
      if_pos (own_ltc (x := x) (c := 895) (k := 895) rfl (by omega)),
      f2_100,
      if_pos (own_ltc (x := x) (c := 8204) (k := 8204) rfl (by omega)),
      f2_114,
      if_pos (own_ltc (x := x) (c := 8304) (k := 8304) rfl (by omega)),
      f2_128,
      if_pos (own_ltc (x := x) (c := 11264) (k := 11264) rfl (by omega)),
      f2_142,
      if_pos (own_ltc (x := x) (c := 12289) (k := 12289) rfl (by omega)),
      f2_155,
      if_pos (own_ltc (x := x) (c := 63744) (k := 63744) rfl (by omega)),
      f2_167,
      if_pos (own_ltc (x := x) (c := 65008) (k := 65008) rfl (by omega)),
      f2_179,
      if_pos (own_ltc (x := x) (c := 65536) (k := 65536) rfl (by omega)),
      f2_195,
      f2_196_17]
  rw [f0_0, e1]
  rw [if_neg (by decide), f0_12, e2, if_pos rfl]; rfl
theorem own_r5 (x : Int32) (h1 : 97 ≤ x.toInt) (h2 : x.toInt ≤ 122) : f0_0 x = 1 := by
  have e1 : f1_0 x = 0 := by
    rw [f1_0,
      if_neg (own_nltc (x := x) (c := 65) (k := 65) rfl (by omega)),
      if_neg (own_nltc (x := x) (c := 91) (k := 91) rfl (by omega)),
      if_pos (own_clt (x := x) (c := 94) (k := 94) rfl (by omega)),
      f1_22,
      if_neg (own_nec (x := x) (c := 96) (k := 96) rfl (by omega)),
      if_pos (own_ltc (x := x) (c := 123) (k := 123) rfl (by omega)),
      f1_45,
      if_neg (own_nec (x := x) (c := 215) (k := 215) rfl (by omega)),
      if_neg (own_nec (x := x) (c := 247) (k := 247) rfl (by omega)),
      if_pos (own_ltc (x := x) (c := 768) (k := 768) rfl (by omega)),
      f1_77,
      if_neg (own_nec (x := x) (c := 894) (k := 894) rfl (by omega)),
      if_pos (own_ltc (x := x) (c := 8192) (k := 8192) rfl (by omega)),
      f1_102,
      if_pos (own_ltc (x := x) (c := 8206) (k := 8206) rfl (by omega)),
      f1_118,
      if_pos (own_ltc (x := x) (c := 8592) (k := 8592) rfl (by omega)),
      f1_134,
      if_pos (own_ltc (x := x) (c := 12272) (k := 12272) rfl (by omega)),
      f1_150,
      if_pos (own_ltc (x := x) (c := 55296) (k := 55296) rfl (by omega)),
      f1_164,
      if_pos (own_ltc (x := x) (c := 64976) (k := 64976) rfl (by omega)),
      f1_178,
      if_pos (own_ltc (x := x) (c := 65534) (k := 65534) rfl (by omega)),
      f1_192,
      if_neg (own_nclt (x := x) (c := 983039) (k := 983039) rfl (by omega))]
  have e2 : f2_0 x = 1 := by
    rw [f2_0,
      if_neg (own_nltc (x := x) (c := 65) (k := 65) rfl (by omega)),
      if_pos (own_clt (x := x) (c := 90) (k := 90) rfl (by omega)),
      f2_12,
      if_neg (own_nec (x := x) (c := 95) (k := 95) rfl (by omega)),
      if_neg (own_nltc (x := x) (c := 97) (k := 97) rfl (by omega)),
      if_neg (own_nclt (x := x) (c := 122) (k := 122) rfl (by omega)),
      f2_191,
      f2_196]
  rw [f0_0, e1]
  rw [if_pos rfl, f0_12_4, e2, if_pos rfl]; rfl
theorem own_r6 (x : Int32) (h1 : 123 ≤ x.toInt) (h2 : x.toInt ≤ 191) : f0_0 x = 1 := by
  have e1 : f1_0 x = 1 := by
    rw [f1_0,
      if_neg (own_nltc (x := x) (c := 65) (k := 65) rfl (by omega)),
      if_neg (own_nltc (x := x) (c := 91) (k := 91) rfl (by omega)),
      if_pos (own_clt (x := x) (c := 94) (k := 94) rfl (by omega)),
      f1_22,
      if_neg (own_nec (x := x) (c := 96) (k := 96) rfl (by omega)),
      if_neg (own_nltc (x := x) (c := 123) (k := 123) rfl (by omega)),
      if_neg (own_nclt (x := x) (c := 191) (k := 191) rfl (by omega))]
  have e2 : f2_0 x = 0 := by
    rw [f2_0,
      if_neg (own_nltc (x := x) (c := 65) (k := 65) rfl (by omega)),
      if_pos (own_clt (x := x) (c := 90) (k := 90) rfl (by omega)),
      f2_12,
      if_neg (own_nec (x := x) (c := 95) (k := 95) rfl (by omega)),
      if_neg (own_nltc (x := x) (c := 97) (k := 97) rfl (by omega)),
      if_pos (own_clt (x := x) (c := 122) (k := 122) rfl (by omega)),
      f2_30,
      if_pos (own_ltc (x := x) (c := 192) (k := 192) rfl (by omega)),
      f2_44,
      if_pos (own_ltc (x := x) (c := 216) (k := 216) rfl (by omega)),
      f2_58,
      if_pos (own_ltc (x := x) (c := 248) (k := 248) rfl (by omega)),
      f2_72,
      if_pos (own_ltc (x := x) (c := 880) (k := 880) rfl (by omega)),
      f2_86,
      if_pos (own_ltc (x := x) (c := 895) (k := 895) rfl (by omega)),
      f2_100,
      if_pos (own_ltc (x := x) (c := 8204) (k := 8204) rfl (by omega)),
      f2_114,
      if_pos (own_ltc (x := x) (c := 8304) (k := 8304) rfl (by omega)),
      f2_128,
      if_pos (own_ltc (x := x) (c := 11264) (k := 11264) rfl (by omega)),
      f2_142,
      if_pos (own_ltc (x := x) (c := 12289) (k := 12289) rfl (by omega)),
      f2_155,
      if_pos (own_ltc (x := x) (c := 63744) (k := 63744) rfl (by omega)),
      f2_167,
      if_pos (own_ltc (x := x) (c := 65008) (k := 65008) rfl (by omega)),
      f2_179,
      if_pos (own_ltc (x := x) (c := 65536) (k := 65536) rfl (by omega)),
      f2_195,
      f2_196_17]
  rw [f0_0, e1]
  rw [if_neg (by decide), f0_12, e2, if_pos rfl]; rfl
theorem own_r7 (x : Int32) (h1 : 192 ≤ x.toInt) (h2 : x.toInt ≤ 214) : f0_0 x = 1 := by
  have e1 : f1_0 x = 0 := by
    rw [f1_0,
      if_neg (own_nltc (x := x) (c := 65) (k := 65) rfl (by omega)),
      if_neg (own_nltc (x := x) (c := 91) (k := 91) rfl (by omega)),
      if_pos (own_clt (x := x) (c := 94) (k := 94) rfl (by omega)),
      f1_22,
      if_neg (own_nec (x := x) (c := 96) (k := 96) rfl (by omega)),
      if_neg (own_nltc (x := x) (c := 123) (k := 123) rfl (by omega)),
      if_pos (own_clt (x := x) (c := 191) (k := 191) rfl (by omega)),
      f1_45,
      if_neg (own_nec (x := x) (c := 215) (k := 215) rfl (by omega)),
      if_neg (own_nec (x := x) (c := 247) (k := 247) rfl (by omega)),
      if_pos (own_ltc (x := x) (c := 768) (k := 768) rfl (by omega)),
      f1_77,
      if_neg (own_nec (x := x) (c := 894) (k := 894) rfl (by omega)),
      if_pos (own_ltc (x := x) (c := 8192) (k := 8192) rfl (by omega)),
      f1_102,
      if_pos (own_ltc (x := x) (c := 8206) (k := 8206) rfl (by omega)),
      f1_118,
      if_pos (own_ltc (x := x) (c := 8592) (k := 8592) rfl (by omega)),
      f1_134,
      if_pos (own_ltc (x := x) (c := 12272) (k := 12272) rfl (by omega)),
      f1_150,
      if_pos (own_ltc (x := x) (c := 55296) (k := 55296) rfl (by omega)),
      f1_164,
      if_pos (own_ltc (x := x) (c := 64976) (k := 64976) rfl (by omega)),
      f1_178,
      if_pos (own_ltc (x := x) (c := 65534) (k := 65534) rfl (by omega)),
      f1_192,
      if_neg (own_nclt (x := x) (c := 983039) (k := 983039) rfl (by omega))]
  have e2 : f2_0 x = 1 := by
    rw [f2_0,
      if_neg (own_nltc (x := x) (c := 65) (k := 65) rfl (by omega)),
      if_pos (own_clt (x := x) (c := 90) (k := 90) rfl (by omega)),
      f2_12,
      if_neg (own_nec (x := x) (c := 95) (k := 95) rfl (by omega)),
      if_neg (own_nltc (x := x) (c := 97) (k := 97) rfl (by omega)),
      if_pos (own_clt (x := x) (c := 122) (k := 122) rfl (by omega)),
      f2_30,
      if_neg (own_nltc (x := x) (c := 192) (k := 192) rfl (by omega)),
      if_neg (own_nclt (x := x) (c := 214) (k := 214) rfl (by omega)),
      f2_191,
      f2_196]
  rw [f0_0, e1]
  rw [if_pos rfl, f0_12_4, e2, if_pos rfl]; rfl
theorem own_r8 (x : Int32) (h1 : 215 ≤ x.toInt) (h2 : x.toInt ≤ 215) : f0_0 x = 1 := by
  have e1 : f1_0 x = 1 := by
    rw [f1_0,
      if_neg (own_nltc (x := x) (c := 65) (k := 65) rfl (by omega)),
      if_neg (own_nltc (x := x) (c := 91) (k := 91) rfl (by omega)),
      if_pos (own_clt (x := x) (c := 94) (k := 94) rfl (by omega)),
      f1_22,
      if_neg (own_nec (x := x) (c := 96) (k := 96) rfl (by omega)),
      if_neg (own_nltc (x := x) (c := 123) (k := 123) rfl (by omega)),
      if_pos (own_clt (x := x) (c := 191) (k := 191) rfl (by omega)),
      f1_45,
      if_pos (own_eqc (x := x) (c := 215) (k := 215) rfl (by omega)),
      f1_59]
  have e2 : f2_0 x = 0 := by
    rw [f2_0,
      if_neg (own_nltc (x := x) (c := 65) (k := 65) rfl (by omega)),
      if_pos (own_clt (x := x) (c := 90) (k := 90) rfl (by omega)),
      f2_12,
      if_neg (own_nec (x := x) (c := 95) (k := 95) rfl (by omega)),
      if_neg (own_nltc (x := x) (c := 97) (k := 97) rfl (by omega)),
      if_pos (own_clt (x := x) (c := 122) (k := 122) rfl (by omega)),
      f2_30,
      if_neg (own_nltc (x := x) (c := 192) (k := 192) rfl (by omega)),
      if_pos (own_clt (x := x) (c := 214) (k := 214) rfl (by omega)),
      f2_44,
      if_pos (own_ltc (x := x) (c := 216) (k := 216) rfl (by omega)),
      f2_58,
      if_pos (own_ltc (x := x) (c := 248) (k := 248) rfl (by omega)),
      f2_72,
      if_pos (own_ltc (x := x) (c := 880) (k := 880) rfl (by omega)),
      f2_86,
      if_pos (own_ltc (x := x) (c := 895) (k := 895) rfl (by omega)),
      f2_100,
      if_pos (own_ltc (x := x) (c := 8204) (k := 8204) rfl (by omega)),
      f2_114,
      if_pos (own_ltc (x := x) (c := 8304) (k := 8304) rfl (by omega)),
      f2_128,
      if_pos (own_ltc (x := x) (c := 11264) (k := 11264) rfl (by omega)),
      f2_142,
      if_pos (own_ltc (x := x) (c := 12289) (k := 12289) rfl (by omega)),
      f2_155,
      if_pos (own_ltc (x := x) (c := 63744) (k := 63744) rfl (by omega)),
      f2_167,
      if_pos (own_ltc (x := x) (c := 65008) (k := 65008) rfl (by omega)),
      f2_179,
      if_pos (own_ltc (x := x) (c := 65536) (k := 65536) rfl (by omega)),
      f2_195,
      f2_196_17]
  rw [f0_0, e1]
  rw [if_neg (by decide), f0_12, e2, if_pos rfl]; rfl
theorem own_r9 (x : Int32) (h1 : 216 ≤ x.toInt) (h2 : x.toInt ≤ 246) : f0_0 x = 1 := by
  have e1 : f1_0 x = 0 := by
    rw [f1_0,
      if_neg (own_nltc (x := x) (c := 65) (k := 65) rfl (by omega)),
      if_neg (own_nltc (x := x) (c := 91) (k := 91) rfl (by omega)),
      if_pos (own_clt (x := x) (c := 94) (k := 94) rfl (by omega)),
      f1_22,
      if_neg (own_nec (x := x) (c := 96) (k := 96) rfl (by omega)),
      if_neg (own_nltc (x := x) (c := 123) (k := 123) rfl (by omega)),
      if_pos (own_clt (x := x) (c := 191) (k := 191) rfl (by omega)),
      f1_45,
      if_neg (own_nec (x := x) (c := 215) (k := 215) rfl (by omega)),
      if_neg (own_nec (x := x) (c := 247) (k := 247) rfl (by omega)),
      if_pos (own_ltc (x := x) (c := 768) (k := 768) rfl (by omega)),
      f1_77,
      if_neg (own_nec (x := x) (c := 894) (k := 894) rfl (by omega)),
      if_pos (own_ltc (x := x) (c := 8192) (k := 8192) rfl (by omega)),
      f1_102,
      if_pos (own_ltc (x := x) (c := 8206) (k := 8206) rfl (by omega)),
      f1_118,
      if_pos (own_ltc (x := x) (c := 8592) (k := 8592) rfl (by omega)),
      f1_134,
      if_pos (own_ltc (x := x) (c := 12272) (k := 12272) rfl (by omega)),
      f1_150,
      if_pos (own_ltc (x := x) (c := 55296) (k := 55296) rfl (by omega)),
      f1_164,
      if_pos (own_ltc (x := x) (c := 64976) (k := 64976) rfl (by omega)),
      f1_178,
      if_pos (own_ltc (x := x) (c := 65534) (k := 65534) rfl (by omega)),
      f1_192,
      if_neg (own_nclt (x := x) (c := 983039) (k := 983039) rfl (by omega))]
  have e2 : f2_0 x = 1 := by
    rw [f2_0,
      if_neg (own_nltc (x := x) (c := 65) (k := 65) rfl (by omega)),
      if_pos (own_clt (x := x) (c := 90) (k := 90) rfl (by omega)),
      f2_12,
      if_neg (own_nec (x := x) (c := 95) (k := 95) rfl (by omega)),
      if_neg (own_nltc (x := x) (c := 97) (k := 97) rfl (by omega)),
      if_pos (own_clt (x := x) (c := 122) (k := 122) rfl (by omega)),
      f2_30,
      if_neg (own_nltc (x := x) (c := 192) (k := 192) rfl (by omega)),
      if_pos (own_clt (x := x) (c := 214) (k := 214) rfl (by omega)),
      f2_44,
      if_neg (own_nltc (x := x) (c := 216) (k := 216) rfl (by omega)),
      if_neg (own_nclt (x := x) (c := 246) (k := 246) rfl (by omega)),
      f2_191,
      f2_196]
  rw [f0_0, e1]
  rw [if_pos rfl, f0_12_4, e2, if_pos rfl]; rfl
theorem own_r10 (x : Int32) (h1 : 247 ≤ x.toInt) (h2 : x.toInt ≤ 247) : f0_0 x = 1 := by
  have e1 : f1_0 x = 1 := by
    rw [f1_0,
      if_neg (own_nltc (x := x) (c := 65) (k := 65) rfl (by omega)),
      if_neg (own_nltc (x := x) (c := 91) (k := 91) rfl (by omega)),
      if_pos (own_clt (x := x) (c := 94) (k := 94) rfl (by omega)),
      f1_22,
      if_neg (own_nec (x := x) (c := 96) (k := 96) rfl (by omega)),
      if_neg (own_nltc (x := x) (c := 123) (k := 123) rfl (by omega)),
      if_pos (own_clt (x := x) (c := 191) (k := 191) rfl (by omega)),
      f1_45,
      if_neg (own_nec (x := x) (c := 215) (k := 215) rfl (by omega)),
      if_pos (own_eqc (x := x) (c := 247) (k := 247) rfl (by omega)),
      f1_59]
  have e2 : f2_0 x = 0 := by
    rw [f2_0,
      if_neg (own_nltc (x := x) (c := 65) (k := 65) rfl (by omega)),
      if_pos (own_clt (x := x) (c := 90) (k := 90) rfl (by omega)),
      f2_12,
      if_neg (own_nec (x := x) (c := 95) (k := 95) rfl (by omega)),
      if_neg (own_nltc (x := x) (c := 97) (k := 97) rfl (by omega)),
      if_pos (own_clt (x := x) (c := 122) (k := 122) rfl (by omega)),
      f2_30,
      if_neg (own_nltc (x := x) (c := 192) (k := 192) rfl (by omega)),
      if_pos (own_clt (x := x) (c := 214) (k := 214) rfl (by omega)),
      f2_44,
      if_neg (own_nltc (x := x) (c := 216) (k := 216) rfl (by omega)),
      if_pos (own_clt (x := x) (c := 246) (k := 246) rfl (by omega)),
      f2_58,
      if_pos (own_ltc (x := x) (c := 248) (k := 248) rfl (by omega)),
      f2_72,
      if_pos (own_ltc (x := x) (c := 880) (k := 880) rfl (by omega)),
      f2_86,
      if_pos (own_ltc (x := x) (c := 895) (k := 895) rfl (by omega)),
      f2_100,
      if_pos (own_ltc (x := x) (c := 8204) (k := 8204) rfl (by omega)),
      f2_114,
      if_pos (own_ltc (x := x) (c := 8304) (k := 8304) rfl (by omega)),
      f2_128,
      if_pos (own_ltc (x := x) (c := 11264) (k := 11264) rfl (by omega)),
      f2_142,
      if_pos (own_ltc (x := x) (c := 12289) (k := 12289) rfl (by omega)),
      f2_155,
      if_pos (own_ltc (x := x) (c := 63744) (k := 63744) rfl (by omega)),
      f2_167,
      if_pos (own_ltc (x := x) (c := 65008) (k := 65008) rfl (by omega)),
      f2_179,
      if_pos (own_ltc (x := x) (c := 65536) (k := 65536) rfl (by omega)),
      f2_195,
      f2_196_17]
  rw [f0_0, e1]
  rw [if_neg (by decide), f0_12, e2, if_pos rfl]; rfl
theorem own_r11 (x : Int32) (h1 : 248 ≤ x.toInt) (h2 : x.toInt ≤ 767) : f0_0 x = 1 := by
  have e1 : f1_0 x = 0 := by
    rw [f1_0,
      if_neg (own_nltc (x := x) (c := 65) (k := 65) rfl (by omega)),
      if_neg (own_nltc (x := x) (c := 91) (k := 91) rfl (by omega)),
      if_pos (own_clt (x := x) (c := 94) (k := 94) rfl (by omega)),
      f1_22,
      if_neg (own_nec (x := x) (c := 96) (k := 96) rfl (by omega)),
      if_neg (own_nltc (x := x) (c := 123) (k := 123) rfl (by omega)),
      if_pos (own_clt (x := x) (c := 191) (k := 191) rfl (by omega)),
      f1_45,
      if_neg (own_nec (x := x) (c := 215) (k := 215) rfl (by omega)),
      if_neg (own_nec (x := x) (c := 247) (k := 247) rfl (by omega)),
      if_pos (own_ltc (x := x) (c := 768) (k := 768) rfl (by omega)),
      f1_77,
      if_neg (own_nec (x := x) (c := 894) (k := 894) rfl (by omega)),
      if_pos (own_ltc (x := x) (c := 8192) (k := 8192) rfl (by omega)),
      f1_102,
      if_pos (own_ltc (x := x) (c := 8206) (k := 8206) rfl (by omega)),
      f1_118,
      if_pos (own_ltc (x := x) (c := 8592) (k := 8592) rfl (by omega)),
      f1_134,
      if_pos (own_ltc (x := x) (c := 12272) (k := 12272) rfl (by omega)),
      f1_150,
      if_pos (own_ltc (x := x) (c := 55296) (k := 55296) rfl (by omega)),
      f1_164,
      if_pos (own_ltc (x := x) (c := 64976) (k := 64976) rfl (by omega)),
      f1_178,
      if_pos (own_ltc (x := x) (c := 65534) (k := 65534) rfl (by omega)),
      f1_192,
      if_neg (own_nclt (x := x) (c := 983039) (k := 983039) rfl (by omega))]
  have e2 : f2_0 x = 1 := by
    rw [f2_0,
      if_neg (own_nltc (x := x) (c := 65) (k := 65) rfl (by omega)),
      if_pos (own_clt (x := x) (c := 90) (k := 90) rfl (by omega)),
      f2_12,
      if_neg (own_nec (x := x) (c := 95) (k := 95) rfl (by omega)),
      if_neg (own_nltc (x := x) (c := 97) (k := 97) rfl (by omega)),
      if_pos (own_clt (x := x) (c := 122) (k := 122) rfl (by omega)),
      f2_30,
      if_neg (own_nltc (x := x) (c := 192) (k := 192) rfl (by omega)),
      if_pos (own_clt (x := x) (c := 214) (k := 214) rfl (by omega)),
      f2_44,
      if_neg (own_nltc (x := x) (c := 216) (k := 216) rfl (by omega)),
      if_pos (own_clt (x := x) (c := 246) (k := 246) rfl (by omega)),
      f2_58,
      if_neg (own_nltc (x := x) (c := 248) (k := 248) rfl (by omega)),
      if_neg (own_nclt (x := x) (c := 767) (k := 767) rfl (by omega)),
      f2_191,
      f2_196]
  rw [f0_0, e1]
  rw [if_pos rfl, f0_12_4, e2, if_pos rfl]; rfl
theorem own_r12 (x : Int32) (h1 : 768 ≤ x.toInt) (h2 : x.toInt ≤ 879) : f0_0 x = 1 := by
  have e1 : f1_0 x = 1 := by
    rw [f1_0,
      if_neg (own_nltc (x := x) (c := 65) (k := 65) rfl (by omega)),
      if_neg (own_nltc (x := x) (c := 91) (k := 91) rfl (by omega)),
      if_pos (own_clt (x := x) (c := 94) (k := 94) rfl (by omega)),
      f1_22,
      if_neg (own_nec (x := x) (c := 96) (k := 96) rfl (by omega)),
      if_neg (own_nltc (x := x) (c := 123) (k := 123) rfl (by omega)),
      if_pos (own_clt (x := x) (c := 191) (k := 191) rfl (by omega)),
      f1_45,
      if_neg (own_nec (x := x) (c := 215) (k := 215) rfl (by omega)),
      if_neg (own_nec (x := x) (c := 247) (k := 247) rfl (by omega)),
      if_neg (own_nltc (x := x) (c := 768) (k := 768) rfl (by omega)),
      if_neg (own_nclt (x := x) (c := 879) (k := 879) rfl (by omega))]
  have e2 : f2_0 x = 0 := by
    rw [f2_0,
      if_neg (own_nltc (x := x) (c := 65) (k := 65) rfl (by omega)),
      if_pos (own_clt (x := x) (c := 90) (k := 90) rfl (by omega)),
      f2_12,
      if_neg (own_nec (x := x) (c := 95) (k := 95) rfl (by omega)),
      if_neg (own_nltc (x := x) (c := 97) (k := 97) rfl (by omega)),
      if_pos (own_clt (x := x) (c := 122) (k := 122) rfl (by omega)),
      f2_30,
      if_neg (own_nltc (x := x) (c := 192) (k := 192) rfl (by omega)),
      if_pos (own_clt (x := x) (c := 214) (k := 214) rfl (by omega)),
      f2_44,
      if_neg (own_nltc (x := x) (c := 216) (k := 216) rfl (by omega)),
      if_pos (own_clt (x := x) (c := 246) (k := 246) rfl (by omega)),
      f2_58,
      if_neg (own_nltc (x := x) (c := 248) (k := 248) rfl (by omega)),
      if_pos (own_clt (x := x) (c := 767) (k := 767) rfl (by omega)),
      f2_72,
      if_pos (own_ltc (x := x) (c := 880) (k := 880) rfl (by omega)),
      f2_86,
      if_pos (own_ltc (x := x) (c := 895) (k := 895) rfl (by omega)),
      f2_100,
      if_pos (own_ltc (x := x) (c := 8204) (k := 8204) rfl (by omega)),
      f2_114,
      if_pos (own_ltc (x := x) (c := 8304) (k := 8304) rfl (by omega)),
      f2_128,
      if_pos (own_ltc (x := x) (c := 11264) (k := 11264) rfl (by omega)),
      f2_142,
      if_pos (own_ltc (x := x) (c := 12289) (k := 12289) rfl (by omega)),
      f2_155,
      if_pos (own_ltc (x := x) (c := 63744) (k := 63744) rfl (by omega)),
      f2_167,
      if_pos (own_ltc (x := x) (c := 65008) (k := 65008) rfl (by omega)),
      f2_179,
      if_pos (own_ltc (x := x) (c := 65536) (k := 65536) rfl (by omega)),
      f2_195,
      f2_196_17]
  rw [f0_0, e1]
  rw [if_neg (by decide), f0_12, e2, if_pos rfl]; rfl
theorem own_r13 (x : Int32) (h1 : 880 ≤ x.toInt) (h2 : x.toInt ≤ 893) : f0_0 x = 1 := by
  have e1 : f1_0 x = 0 := by
    rw [f1_0,
      if_neg (own_nltc (x := x) (c := 65) (k := 65) rfl (by omega)),
      if_neg (own_nltc (x := x) (c := 91) (k := 91) rfl (by omega)),
      if_pos (own_clt (x := x) (c := 94) (k := 94) rfl (by omega)),
      f1_22,
      if_neg (own_nec (x := x) (c := 96) (k := 96) rfl (by omega)),
      if_neg (own_nltc (x := x) (c := 123) (k := 123) rfl (by omega)),
      if_pos (own_clt (x := x) (c := 191) (k := 191) rfl (by omega)),
      f1_45,
      if_neg (own_nec (x := x) (c := 215) (k := 215) rfl (by omega)),
      if_neg (own_nec (x := x) (c := 247) (k := 247) rfl (by omega)),
      if_neg (own_nltc (x := x) (c := 768) (k := 768) rfl (by omega)),
      if_pos (own_clt (x := x) (c := 879) (k := 879) rfl (by omega)),
      f1_77,
      if_neg (own_nec (x := x) (c := 894) (k := 894) rfl (by omega)),
      if_pos (own_ltc (x := x) (c := 8192) (k := 8192) rfl (by omega)),
      f1_102,
      if_pos (own_ltc (x := x) (c := 8206) (k := 8206) rfl (by omega)),
      f1_118,
      if_pos (own_ltc (x := x) (c := 8592) (k := 8592) rfl (by omega)),
      f1_134,
      if_pos (own_ltc (x := x) (c := 12272) (k := 12272) rfl (by omega)),
      f1_150,
      if_pos (own_ltc (x := x) (c := 55296) (k := 55296) rfl (by omega)),
      f1_164,
      if_pos (own_ltc (x := x) (c := 64976) (k := 64976) rfl (by omega)),
      f1_178,
      if_pos (own_ltc (x := x) (c := 65534) (k := 65534) rfl (by omega)),
      f1_192,
      if_neg (own_nclt (x := x) (c := 983039) (k := 983039) rfl (by omega))]
  have e2 : f2_0 x = 1 := by
    rw [f2_0,
      if_neg (own_nltc (x := x) (c := 65) (k := 65) rfl (by omega)),
      if_pos (own_clt (x := x) (c := 90) (k := 90) rfl (by omega)),
      f2_12,
      if_neg (own_nec (x := x) (c := 95) (k := 95) rfl (by omega)),
      if_neg (own_nltc (x := x) (c := 97) (k := 97) rfl (by omega)),
      if_pos (own_clt (x := x) (c := 122) (k := 122) rfl (by omega)),
      f2_30,
      if_neg (own_nltc (x := x) (c := 192) (k := 192) rfl (by omega)),
      if_pos (own_clt (x := x) (c := 214) (k := 214) rfl (by omega)),
      f2_44,
      if_neg (own_nltc (x := x) (c := 216) (k := 216) rfl (by omega)),
      if_pos (own_clt (x := x) (c := 246) (k := 246) rfl (by omega)),
      f2_58,
      if_neg (own_nltc (x := x) (c := 248) (k := 248) rfl (by omega)),
      if_pos (own_clt (x := x) (c := 767) (k := 767) rfl (by omega)),
      f2_72,
      if_neg (own_nltc (x := x) (c := 880) (k := 880) rfl (by omega)),
      if_neg (own_nclt (x := x) (c := 893) (k := 893) rfl (by omega)),
      f2_191,
      f2_196]
  rw [f0_0, e1]
  rw [if_pos rfl, f0_12_4, e2, if_pos rfl]; rfl
theorem own_r14 (x : Int32) (h1 : 894 ≤ x.toInt) (h2 : x.toInt ≤ 894) : f0_0 x = 1 := by
  have e1 : f1_0 x = 1 := by
    rw [f1_0,
      if_neg (own_nltc (x := x) (c := 65) (k := 65) rfl (by omega)),
      if_neg (own_nltc (x := x) (c := 91) (k := 91) rfl (by omega)),
      if_pos (own_clt (x := x) (c := 94) (k := 94) rfl (by omega)),
      f1_22,
      if_neg (own_nec (x := x) (c := 96) (k := 96) rfl (by omega)),
      if_neg (own_nltc (x := x) (c := 123) (k := 123) rfl (by omega)),
      if_pos (own_clt (x := x) (c := 191) (k := 191) rfl (by omega)),
      f1_45,
      if_neg (own_nec (x := x) (c := 215) (k := 215) rfl (by omega)),
      if_neg (own_nec (x := x) (c := 247) (k := 247) rfl (by omega)),
      if_neg (own_nltc (x := x) (c := 768) (k := 768) rfl (by omega)),
      if_pos (own_clt (x := x) (c := 879) (k := 879) rfl (by omega)),
      f1_77,
      if_pos (own_eqc (x := x) (c := 894) (k := 894) rfl (by omega))]
  have e2 : f2_0 x = 0 := by
    rw [f2_0,
      if_neg (own_nltc (x := x) (c := 65) (k := 65) rfl (by omega)),
      if_pos (own_clt (x := x) (c := 90) (k := 90) rfl (by omega)),
      f2_12,
      if_neg (own_nec (x := x) (c := 95) (k := 95) rfl (by omega)),
      if_neg (own_nltc (x := x) (c := 97) (k := 97) rfl (by omega)),
      if_pos (own_clt (x := x) (c := 122) (k := 122) rfl (by omega)),
      f2_30,
      if_neg (own_nltc (x := x) (c := 192) (k := 192) rfl (by omega)),
      if_pos (own_clt (x := x) (c := 214) (k := 214) rfl (by omega)),
      f2_44,
      if_neg (own_nltc (x := x) (c := 216) (k := 216) rfl (by omega)),
      if_pos (own_clt (x := x) (c := 246) (k := 246) rfl (by omega)),
      f2_58,
      if_neg (own_nltc (x := x) (c := 248) (k := 248) rfl (by omega)),
      if_pos (own_clt (x := x) (c := 767) (k := 767) rfl (by omega)),
      f2_72,
      if_neg (own_nltc (x := x) (c := 880) (k := 880) rfl (by omega)),
      if_pos (own_clt (x := x) (c := 893) (k := 893) rfl (by omega)),
      f2_86,
      if_pos (own_ltc (x := x) (c := 895) (k := 895) rfl (by omega)),
      f2_100,
      if_pos (own_ltc (x := x) (c := 8204) (k := 8204) rfl (by omega)),
      f2_114,
      if_pos (own_ltc (x := x) (c := 8304) (k := 8304) rfl (by omega)),
      f2_128,
      if_pos (own_ltc (x := x) (c := 11264) (k := 11264) rfl (by omega)),
      f2_142,
      if_pos (own_ltc (x := x) (c := 12289) (k := 12289) rfl (by omega)),
      f2_155,
      if_pos (own_ltc (x := x) (c := 63744) (k := 63744) rfl (by omega)),
      f2_167,
      if_pos (own_ltc (x := x) (c := 65008) (k := 65008) rfl (by omega)),
      f2_179,
      if_pos (own_ltc (x := x) (c := 65536) (k := 65536) rfl (by omega)),
      f2_195,
      f2_196_17]
  rw [f0_0, e1]
  rw [if_neg (by decide), f0_12, e2, if_pos rfl]; rfl
theorem own_r15 (x : Int32) (h1 : 895 ≤ x.toInt) (h2 : x.toInt ≤ 8191) : f0_0 x = 1 := by
  have e1 : f1_0 x = 0 := by
    rw [f1_0,
      if_neg (own_nltc (x := x) (c := 65) (k := 65) rfl (by omega)),
      if_neg (own_nltc (x := x) (c := 91) (k := 91) rfl (by omega)),
      if_pos (own_clt (x := x) (c := 94) (k := 94) rfl (by omega)),
      f1_22,
      if_neg (own_nec (x := x) (c := 96) (k := 96) rfl (by omega)),
      if_neg (own_nltc (x := x) (c := 123) (k := 123) rfl (by omega)),
      if_pos (own_clt (x := x) (c := 191) (k := 191) rfl (by omega)),
      f1_45,
      if_neg (own_nec (x := x) (c := 215) (k := 215) rfl (by omega)),
      if_neg (own_nec (x := x) (c := 247) (k := 247) rfl (by omega)),
      if_neg (own_nltc (x := x) (c := 768) (k := 768) rfl (by omega)),
      if_pos (own_clt (x := x) (c := 879) (k := 879) rfl (by omega)),
      f1_77,
      if_neg (own_nec (x := x) (c := 894) (k := 894) rfl (by omega)),
      if_pos (own_ltc (x := x) (c := 8192) (k := 8192) rfl (by omega)),
      f1_102,
      if_pos (own_ltc (x := x) (c := 8206) (k := 8206) rfl (by omega)),
      f1_118,
      if_pos (own_ltc (x := x) (c := 8592) (k := 8592) rfl (by omega)),
      f1_134,
      if_pos (own_ltc (x := x) (c := 12272) (k := 12272) rfl (by omega)),
      f1_150,
      if_pos (own_ltc (x := x) (c := 55296) (k := 55296) rfl (by omega)),
      f1_164,
      if_pos (own_ltc (x := x) (c := 64976) (k := 64976) rfl (by omega)),
      f1_178,
      if_pos (own_ltc (x := x) (c := 65534) (k := 65534) rfl (by omega)),
      f1_192,
      if_neg (own_nclt (x := x) (c := 983039) (k := 983039) rfl (by omega))]
  have e2 : f2_0 x = 1 := by
    rw [f2_0,
      if_neg (own_nltc (x := x) (c := 65) (k := 65) rfl (by omega)),
      if_pos (own_clt (x := x) (c := 90) (k := 90) rfl (by omega)),
      f2_12,
      if_neg (own_nec (x := x) (c := 95) (k := 95) rfl (by omega)),
      if_neg (own_nltc (x := x) (c := 97) (k := 97) rfl (by omega)),
      if_pos (own_clt (x := x) (c := 122) (k := 122) rfl (by omega)),
      f2_30,
      if_neg (own_nltc (x := x) (c := 192) (k := 192) rfl (by omega)),
      if_pos (own_clt (x := x) (c := 214) (k := 214) rfl (by omega)),
      f2_44,
      if_neg (own_nltc (x := x) (c := 216) (k := 216) rfl (by omega)),
      if_pos (own_clt (x := x) (c := 246) (k := 246) rfl (by omega)),
      f2_58,
      if_neg (own_nltc (x := x) (c := 248) (k := 248) rfl (by omega)),
      if_pos (own_clt (x := x) (c := 767) (k := 767) rfl (by omega)),
      f2_72,
      if_neg (own_nltc (x := x) (c := 880) (k := 880) rfl (by omega)),
      if_pos (own_clt (x := x) (c := 893) (k := 893) rfl (by omega)),
      f2_86,
      if_neg (own_nltc (x := x) (c := 895) (k := 895) rfl (by omega)),
      if_neg (own_nclt (x := x) (c := 8191) (k := 8191) rfl (by omega)),
      f2_191,
      f2_196]
  rw [f0_0, e1]
  rw [if_pos rfl, f0_12_4, e2, if_pos rfl]; rfl
theorem own_r16 (x : Int32) (h1 : 8192 ≤ x.toInt) (h2 : x.toInt ≤ 8203) : f0_0 x = 1 := by
  have e1 : f1_0 x = 1 := by
    rw [f1_0,
      if_neg (own_nltc (x := x) (c := 65) (k := 65) rfl (by omega)),
      if_neg (own_nltc (x := x) (c := 91) (k := 91) rfl (by omega)),
      if_pos (own_clt (x := x) (c := 94) (k := 94) rfl (by omega)),
      f1_22,
      if_neg (own_nec (x := x) (c := 96) (k := 96) rfl (by omega)),
      if_neg (own_nltc (x := x) (c := 123) (k := 123) rfl (by omega)),
      if_pos (own_clt (x := x) (c := 191) (k := 191) rfl (by omega)),
      f1_45,
      if_neg (own_nec (x := x) (c := 215) (k := 215) rfl (by omega)),
      if_neg (own_nec (x := x) (c := 247) (k := 247) rfl (by omega)),
      if_neg (own_nltc (x := x) (c := 768) (k := 768) rfl (by omega)),
      if_pos (own_clt (x := x) (c := 879) (k := 879) rfl (by omega)),
      f1_77,
      if_neg (own_nec (x := x) (c := 894) (k := 894) rfl (by omega)),
      if_neg (own_nltc (x := x) (c := 8192) (k := 8192) rfl (by omega)),
      if_neg (own_nclt (x := x) (c := 8203) (k := 8203) rfl (by omega))]
  have e2 : f2_0 x = 0 := by
    rw [f2_0,
      if_neg (own_nltc (x := x) (c := 65) (k := 65) rfl (by omega)),
      if_pos (own_clt (x := x) (c := 90) (k := 90) rfl (by omega)),
      f2_12,
      if_neg (own_nec (x := x) (c := 95) (k := 95) rfl (by omega)),
      if_neg (own_nltc (x := x) (c := 97) (k := 97) rfl (by omega)),
      if_pos (own_clt (x := x) (c := 122) (k := 122) rfl (by omega)),
      f2_30,
      if_neg (own_nltc (x := x) (c := 192) (k := 192) rfl (by omega)),
      if_pos (own_clt (x := x) (c := 214) (k := 214) rfl (by omega)),
      f2_44,
      if_neg (own_nltc (x := x) (c := 216) (k := 216) rfl (by omega)),
      if_pos (own_clt (x := x) (c := 246) (k := 246) rfl (by omega)),
      f2_58,
      if_neg (own_nltc (x := x) (c := 248) (k := 248) rfl (by omega)),
      if_pos (own_clt (x := x) (c := 767) (k := 767) rfl (by omega)),
      f2_72,
      if_neg (own_nltc (x := x) (c := 880) (k := 880) rfl (by omega)),
      if_pos (own_clt (x := x) (c := 893) (k := 893) rfl (by omega)),
      f2_86,
      if_neg (own_nltc (x := x) (c := 895) (k := 895) rfl (by omega)),
      if_pos (own_clt (x := x) (c := 8191) (k := 8191) rfl (by omega)),
      f2_100,
      if_pos (own_ltc (x := x) (c := 8204) (k := 8204) rfl (by omega)),
      f2_114,
      if_pos (own_ltc (x := x) (c := 8304) (k := 8304) rfl (by omega)),
      f2_128,
      if_pos (own_ltc (x := x) (c := 11264) (k := 11264) rfl (by omega)),
      f2_142,
      if_pos (own_ltc (x := x) (c := 12289) (k := 12289) rfl (by omega)),
      f2_155,
      if_pos (own_ltc (x := x) (c := 63744) (k := 63744) rfl (by omega)),
      f2_167,
      if_pos (own_ltc (x := x) (c := 65008) (k := 65008) rfl (by omega)),
      f2_179,
      if_pos (own_ltc (x := x) (c := 65536) (k := 65536) rfl (by omega)),
      f2_195,
      f2_196_17]
  rw [f0_0, e1]
  rw [if_neg (by decide), f0_12, e2, if_pos rfl]; rfl
theorem own_r17 (x : Int32) (h1 : 8204 ≤ x.toInt) (h2 : x.toInt ≤ 8205) : f0_0 x = 1 := by
  have e1 : f1_0 x = 0 := by
    rw [f1_0,
      if_neg (own_nltc (x := x) (c := 65) (k := 65) rfl (by omega)),
      if_neg (own_nltc (x := x) (c := 91) (k := 91) rfl (by omega)),
      if_pos (own_clt (x := x) (c := 94) (k := 94) rfl (by omega)),
      f1_22,
      if_neg (own_nec (x := x) (c := 96) (k := 96) rfl (by omega)),
      if_neg (own_nltc (x := x) (c := 123) (k := 123) rfl (by omega)),
      if_pos (own_clt (x := x) (c := 191) (k := 191) rfl (by omega)),
      f1_45,
      if_neg (own_nec (x := x) (c := 215) (k := 215) rfl (by omega)),
      if_neg (own_nec (x := x) (c := 247) (k := 247) rfl (by omega)),
      if_neg (own_nltc (x := x) (c := 768) (k := 768) rfl (by omega)),
      if_pos (own_clt (x := x) (c := 879) (k := 879) rfl (by omega)),
      f1_77,
      if_neg (own_nec (x := x) (c := 894) (k := 894) rfl (by omega)),
      if_neg (own_nltc (x := x) (c := 8192) (k := 8192) rfl (by omega)),
      if_pos (own_clt (x := x) (c := 8203) (k := 8203) rfl (by omega)),
      f1_102,
      if_pos (own_ltc (x := x) (c := 8206) (k := 8206) rfl (by omega)),
      f1_118,
      if_pos (own_ltc (x := x) (c := 8592) (k := 8592) rfl (by omega)),
      f1_134,
      if_pos (own_ltc (x := x) (c := 12272) (k := 12272) rfl (by omega)),
      f1_150,
      if_pos (own_ltc (x := x) (c := 55296) (k := 55296) rfl (by omega)),
      f1_164,
      if_pos (own_ltc (x := x) (c := 64976) (k := 64976) rfl (by omega)),
      f1_178,
      if_pos (own_ltc (x := x) (c := 65534) (k := 65534) rfl (by omega)),
      f1_192,
      if_neg (own_nclt (x := x) (c := 983039) (k := 983039) rfl (by omega))]
  have e2 : f2_0 x = 1 := by
    rw [f2_0,
      if_neg (own_nltc (x := x) (c := 65) (k := 65) rfl (by omega)),
      if_pos (own_clt (x := x) (c := 90) (k := 90) rfl (by omega)),
      f2_12,
      if_neg (own_nec (x := x) (c := 95) (k := 95) rfl (by omega)),
      if_neg (own_nltc (x := x) (c := 97) (k := 97) rfl (by omega)),
      if_pos (own_clt (x := x) (c := 122) (k := 122) rfl (by omega)),
      f2_30,
      if_neg (own_nltc (x := x) (c := 192) (k := 192) rfl (by omega)),
      if_pos (own_clt (x := x) (c := 214) (k := 214) rfl (by omega)),
      f2_44,
      if_neg (own_nltc (x := x) (c := 216) (k := 216) rfl (by omega)),
      if_pos (own_clt (x := x) (c := 246) (k := 246) rfl (by omega)),
      f2_58,
      if_neg (own_nltc (x := x) (c := 248) (k := 248) rfl (by omega)),
      if_pos (own_clt (x := x) (c := 767) (k := 767) rfl (by omega)),
      f2_72,
      if_neg (own_nltc (x := x) (c := 880) (k := 880) rfl (by omega)),
      if_pos (own_clt (x := x) (c := 893) (k := 893) rfl (by omega)),
      f2_86,
      if_neg (own_nltc (x := x) (c := 895) (k := 895) rfl (by omega)),
      if_pos (own_clt (x := x) (c := 8191) (k := 8191) rfl (by omega)),
      f2_100,
      if_neg (own_nltc (x := x) (c := 8204) (k := 8204) rfl (by omega)),
      if_neg (own_nclt (x := x) (c := 8205) (k := 8205) rfl (by omega)),
      f2_191,
      f2_196]
  rw [f0_0, e1]
  rw [if_pos rfl, f0_12_4, e2, if_pos rfl]; rfl
theorem own_r18 (x : Int32) (h1 : 8206 ≤ x.toInt) (h2 : x.toInt ≤ 8303) : f0_0 x = 1 := by
  have e1 : f1_0 x = 1 := by
    rw [f1_0,
      if_neg (own_nltc (x := x) (c := 65) (k := 65) rfl (by omega)),
      if_neg (own_nltc (x := x) (c := 91) (k := 91) rfl (by omega)),
      if_pos (own_clt (x := x) (c := 94) (k := 94) rfl (by omega)),
      f1_22,
      if_neg (own_nec (x := x) (c := 96) (k := 96) rfl (by omega)),
      if_neg (own_nltc (x := x) (c := 123) (k := 123) rfl (by omega)),
      if_pos (own_clt (x := x) (c := 191) (k := 191) rfl (by omega)),
      f1_45,
      if_neg (own_nec (x := x) (c := 215) (k := 215) rfl (by omega)),
      if_neg (own_nec (x := x) (c := 247) (k := 247) rfl (by omega)),
      if_neg (own_nltc (x := x) (c := 768) (k := 768) rfl (by omega)),
      if_pos (own_clt (x := x) (c := 879) (k := 879) rfl (by omega)),
      f1_77,
      if_neg (own_nec (x := x) (c := 894) (k := 894) rfl (by omega)),
      if_neg (own_nltc (x := x) (c := 8192) (k := 8192) rfl (by omega)),
      if_pos (own_clt (x := x) (c := 8203) (k := 8203) rfl (by omega)),
      f1_102,
      if_neg (own_nltc (x := x) (c := 8206) (k := 8206) rfl (by omega)),
      if_neg (own_nclt (x := x) (c := 8303) (k := 8303) rfl (by omega))]
  have e2 : f2_0 x = 0 := by
    rw [f2_0,
      if_neg (own_nltc (x := x) (c := 65) (k := 65) rfl (by omega)),
      if_pos (own_clt (x := x) (c := 90) (k := 90) rfl (by omega)),
      f2_12,
      if_neg (own_nec (x := x) (c := 95) (k := 95) rfl (by omega)),
      if_neg (own_nltc (x := x) (c := 97) (k := 97) rfl (by omega)),
      if_pos (own_clt (x := x) (c := 122) (k := 122) rfl (by omega)),
      f2_30,
      if_neg (own_nltc (x := x) (c := 192) (k := 192) rfl (by omega)),
      if_pos (own_clt (x := x) (c := 214) (k := 214) rfl (by omega)),
      f2_44,
      if_neg (own_nltc (x := x) (c := 216) (k := 216) rfl (by omega)),
      if_pos (own_clt (x := x) (c := 246) (k := 246) rfl (by omega)),
      f2_58,
      if_neg (own_nltc (x := x) (c := 248) (k := 248) rfl (by omega)),
      if_pos (own_clt (x := x) (c := 767) (k := 767) rfl (by omega)),
      f2_72,
      if_neg (own_nltc (x := x) (c := 880) (k := 880) rfl (by omega)),
      if_pos (own_clt (x := x) (c := 893) (k := 893) rfl (by omega)),
      f2_86,
      if_neg (own_nltc (x := x) (c := 895) (k := 895) rfl (by omega)),
      if_pos (own_clt (x := x) (c := 8191) (k := 8191) rfl (by omega)),
      f2_100,
      if_neg (own_nltc (x := x) (c := 8204) (k := 8204) rfl (by omega)),
      if_pos (own_clt (x := x) (c := 8205) (k := 8205) rfl (by omega)),
      f2_114,
      if_pos (own_ltc (x := x) (c := 8304) (k := 8304) rfl (by omega)),
      f2_128,
      if_pos (own_ltc (x := x) (c := 11264) (k := 11264) rfl (by omega)),
      f2_142,
      if_pos (own_ltc (x := x) (c := 12289) (k := 12289) rfl (by omega)),
      f2_155,
      if_pos (own_ltc (x := x) (c := 63744) (k := 63744) rfl (by omega)),
      f2_167,
      if_pos (own_ltc (x := x) (c := 65008) (k := 65008) rfl (by omega)),
      f2_179,
      if_pos (own_ltc (x := x) (c := 65536) (k := 65536) rfl (by omega)),
      f2_195,
      f2_196_17]
  rw [f0_0, e1]
  rw [if_neg (by decide), f0_12, e2, if_pos rfl]; rfl
theorem own_r19 (x : Int32) (h1 : 8304 ≤ x.toInt) (h2 : x.toInt ≤ 8591) : f0_0 x = 1 := by
  have e1 : f1_0 x = 0 := by
    rw [f1_0,
      if_neg (own_nltc (x := x) (c := 65) (k := 65) rfl (by omega)),
      if_neg (own_nltc (x := x) (c := 91) (k := 91) rfl (by omega)),
      if_pos (own_clt (x := x) (c := 94) (k := 94) rfl (by omega)),
      f1_22,
      if_neg (own_nec (x := x) (c := 96) (k := 96) rfl (by omega)),
      if_neg (own_nltc (x := x) (c := 123) (k := 123) rfl (by omega)),
      if_pos (own_clt (x := x) (c := 191) (k := 191) rfl (by omega)),
      f1_45,
      if_neg (own_nec (x := x) (c := 215) (k := 215) rfl (by omega)),
      if_neg (own_nec (x := x) (c := 247) (k := 247) rfl (by omega)),
      if_neg (own_nltc (x := x) (c := 768) (k := 768) rfl (by omega)),
      if_pos (own_clt (x := x) (c := 879) (k := 879) rfl (by omega)),
      f1_77,
      if_neg (own_nec (x := x) (c := 894) (k := 894) rfl (by omega)),
      if_neg (own_nltc (x := x) (c := 8192) (k := 8192) rfl (by omega)),
      if_pos (own_clt (x := x) (c := 8203) (k := 8203) rfl (by omega)),
      f1_102,
      if_neg (own_nltc (x := x) (c := 8206) (k := 8206) rfl (by omega)),
      if_pos (own_clt (x := x) (c := 8303) (k := 8303) rfl (by omega)),
      f1_118,
      if_pos (own_ltc (x := x) (c := 8592) (k := 8592) rfl (by omega)),
      f1_134,
      if_pos (own_ltc (x := x) (c := 12272) (k := 12272) rfl (by omega)),
      f1_150,
      if_pos (own_ltc (x := x) (c := 55296) (k := 55296) rfl (by omega)),
      f1_164,
      if_pos (own_ltc (x := x) (c := 64976) (k := 64976) rfl (by omega)),
      f1_178,
      if_pos (own_ltc (x := x) (c := 65534) (k := 65534) rfl (by omega)),
      f1_192,
      if_neg (own_nclt (x := x) (c := 983039) (k := 983039) rfl (by omega))]
  have e2 : f2_0 x = 1 := by
    rw [f2_0,
      if_neg (own_nltc (x := x) (c := 65) (k := 65) rfl (by omega)),
      if_pos (own_clt (x := x) (c := 90) (k := 90) rfl (by omega)),
      f2_12,
      if_neg (own_nec (x := x) (c := 95) (k := 95) rfl (by omega)),
      if_neg (own_nltc (x := x) (c := 97) (k := 97) rfl (by omega)),
      if_pos (own_clt (x := x) (c := 122) (k := 122) rfl (by omega)),
      f2_30,
      if_neg (own_nltc (x := x) (c := 192) (k := 192) rfl (by omega)),
      if_pos (own_clt (x := x) (c := 214) (k := 214) rfl (by omega)),
      f2_44,
      if_neg (own_nltc (x := x) (c := 216) (k := 216) rfl (by omega)),
      if_pos (own_clt (x := x) (c := 246) (k := 246) rfl (by omega)),
      f2_58,
      if_neg (own_nltc (x := x) (c := 248) (k := 248) rfl (by omega)),
      if_pos (own_clt (x := x) (c := 767) (k := 767) rfl (by omega)),
      f2_72,
      if_neg (own_nltc (x := x) (c := 880) (k := 880) rfl (by omega)),
      if_pos (own_clt (x := x) (c := 893) (k := 893) rfl (by omega)),
      f2_86,
      if_neg (own_nltc (x := x) (c := 895) (k := 895) rfl (by omega)),
      if_pos (own_clt (x := x) (c := 8191) (k := 8191) rfl (by omega)),
      f2_100,
      if_neg (own_nltc (x := x) (c := 8204) (k := 8204) rfl (by omega)),
      if_pos (own_clt (x := x) (c := 8205) (k := 8205) rfl (by omega)),
      f2_114,
      if_neg (own_nltc (x := x) (c := 8304) (k := 8304) rfl (by omega)),
      if_neg (own_nclt (x := x) (c := 8591) (k := 8591) rfl (by omega)),
      f2_191,
      f2_196]
  rw [f0_0, e1]
  rw [if_pos rfl, f0_12_4, e2, if_pos rfl]; rfl
theorem own_r20 (x : Int32) (h1 : 8592 ≤ x.toInt) (h2 : x.toInt ≤ 11263) : f0_0 x = 1 := by
  have e1 : f1_0 x = 1 := by
    rw [f1_0,
      if_neg (own_nltc (x := x) (c := 65) (k := 65) rfl (by omega)),
      if_neg (own_nltc (x := x) (c := 91) (k := 91) rfl (by omega)),
      if_pos (own_clt (x := x) (c := 94) (k := 94) rfl (by omega)),
      f1_22,
      if_neg (own_nec (x := x) (c := 96) (k := 96) rfl (by omega)),
      if_neg (own_nltc (x := x) (c := 123) (k := 123) rfl (by omega)),
      if_pos (own_clt (x := x) (c := 191) (k := 191) rfl (by omega)),
      f1_45,
      if_neg (own_nec (x := x) (c := 215) (k := 215) rfl (by omega)),
      if_neg (own_nec (x := x) (c := 247) (k := 247) rfl (by omega)),
      if_neg (own_nltc (x := x) (c := 768) (k := 768) rfl (by omega)),
      if_pos (own_clt (x := x) (c := 879) (k := 879) rfl (by omega)),
      f1_77,
      if_neg (own_nec (x := x) (c := 894) (k := 894) rfl (by omega)),
      if_neg (own_nltc (x := x) (c := 8192) (k := 8192) rfl (by omega)),
      if_pos (own_clt (x := x) (c := 8203) (k := 8203) rfl (by omega)),
      f1_102,
      if_neg (own_nltc (x := x) (c := 8206) (k := 8206) rfl (by omega)),
      if_pos (own_clt (x := x) (c := 8303) (k := 8303) rfl (by omega)),
      f1_118,
      if_neg (own_nltc (x := x) (c := 8592) (k := 8592) rfl (by omega)),
      if_neg (own_nclt (x := x) (c := 11263) (k := 11263) rfl (by omega))]
  have e2 : f2_0 x = 0 := by
    rw [f2_0,
      if_neg (own_nltc (x := x) (c := 65) (k := 65) rfl (by omega)),
      if_pos (own_clt (x := x) (c := 90) (k := 90) rfl (by omega)),
      f2_12,
      if_neg (own_nec (x := x) (c := 95) (k := 95) rfl (by omega)),
      if_neg (own_nltc (x := x) (c := 97) (k := 97) rfl (by omega)),
      if_pos (own_clt (x := x) (c := 122) (k := 122) rfl (by omega)),
      f2_30,
      if_neg (own_nltc (x := x) (c := 192) (k := 192) rfl (by omega)),
      if_pos (own_clt (x := x) (c := 214) (k := 214) rfl (by omega)),
      f2_44,
      if_neg (own_nltc (x := x) (c := 216) (k := 216) rfl (by omega)),
      if_pos (own_clt (x := x) (c := 246) (k := 246) rfl (by omega)),
      f2_58,
      if_neg (own_nltc (x := x) (c := 248) (k := 248) rfl (by omega)),
      if_pos (own_clt (x := x) (c := 767) (k := 767) rfl (by omega)),
      f2_72,
      if_neg (own_nltc (x := x) (c := 880) (k := 880) rfl (by omega)),
      if_pos (own_clt (x := x) (c := 893) (k := 893) rfl (by omega)),
      f2_86,
      if_neg (own_nltc (x := x) (c := 895) (k := 895) rfl (by omega)),
      if_pos (own_clt (x := x) (c := 8191) (k := 8191) rfl (by omega)),
      f2_100,
      if_neg (own_nltc (x := x) (c := 8204) (k := 8204) rfl (by omega)),
      if_pos (own_clt (x := x) (c := 8205) (k := 8205) rfl (by omega)),
      f2_114,
      if_neg (own_nltc (x := x) (c := 8304) (k := 8304) rfl (by omega)),
      if_pos (own_clt (x := x) (c := 8591) (k := 8591) rfl (by omega)),
      f2_128,
      if_pos (own_ltc (x := x) (c := 11264) (k := 11264) rfl (by omega)),
      f2_142,
      if_pos (own_ltc (x := x) (c := 12289) (k := 12289) rfl (by omega)),
      f2_155,
      if_pos (own_ltc (x := x) (c := 63744) (k := 63744) rfl (by omega)),
      f2_167,
      if_pos (own_ltc (x := x) (c := 65008) (k := 65008) rfl (by omega)),
      f2_179,
      if_pos (own_ltc (x := x) (c := 65536) (k := 65536) rfl (by omega)),
      f2_195,
      f2_196_17]
  rw [f0_0, e1]
  rw [if_neg (by decide), f0_12, e2, if_pos rfl]; rfl
theorem own_r21 (x : Int32) (h1 : 11264 ≤ x.toInt) (h2 : x.toInt ≤ 12271) : f0_0 x = 1 := by
  have e1 : f1_0 x = 0 := by
    rw [f1_0,
      if_neg (own_nltc (x := x) (c := 65) (k := 65) rfl (by omega)),
      if_neg (own_nltc (x := x) (c := 91) (k := 91) rfl (by omega)),
      if_pos (own_clt (x := x) (c := 94) (k := 94) rfl (by omega)),
      f1_22,
      if_neg (own_nec (x := x) (c := 96) (k := 96) rfl (by omega)),
      if_neg (own_nltc (x := x) (c := 123) (k := 123) rfl (by omega)),
      if_pos (own_clt (x := x) (c := 191) (k := 191) rfl (by omega)),
      f1_45,
      if_neg (own_nec (x := x) (c := 215) (k := 215) rfl (by omega)),
      if_neg (own_nec (x := x) (c := 247) (k := 247) rfl (by omega)),
      if_neg (own_nltc (x := x) (c := 768) (k := 768) rfl (by omega)),
      if_pos (own_clt (x := x) (c := 879) (k := 879) rfl (by omega)),
      f1_77,
      if_neg (own_nec (x := x) (c := 894) (k := 894) rfl (by omega)),
      if_neg (own_nltc (x := x) (c := 8192) (k := 8192) rfl (by omega)),
      if_pos (own_clt (x := x) (c := 8203) (k := 8203) rfl (by omega)),
      f1_102,
      if_neg (own_nltc (x := x) (c := 8206) (k := 8206) rfl (by omega)),
      if_pos (own_clt (x := x) (c := 8303) (k := 8303) rfl (by omega)),
      f1_118,
      if_neg (own_nltc (x := x) (c := 8592) (k := 8592) rfl (by omega)),
      if_pos (own_clt (x := x) (c := 11263) (k := 11263) rfl (by omega)),
      f1_134,
      if_pos (own_ltc (x := x) (c := 12272) (k := 12272) rfl (by omega)),
      f1_150,
      if_pos (own_ltc (x := x) (c := 55296) (k := 55296) rfl (by omega)),
      f1_164,
      if_pos (own_ltc (x := x) (c := 64976) (k := 64976) rfl (by omega)),
      f1_178,
      if_pos (own_ltc (x := x) (c := 65534) (k := 65534) rfl (by omega)),
      f1_192,
      if_neg (own_nclt (x := x) (c := 983039) (k := 983039) rfl (by omega))]
  have e2 : f2_0 x = 1 := by
    rw [f2_0,
      if_neg (own_nltc (x := x) (c := 65) (k := 65) rfl (by omega)),
      if_pos (own_clt (x := x) (c := 90) (k := 90) rfl (by omega)),
      f2_12,
      if_neg (own_nec (x := x) (c := 95) (k := 95) rfl (by omega)),
      if_neg (own_nltc (x := x) (c := 97) (k := 97) rfl (by omega)),
      if_pos (own_clt (x := x) (c := 122) (k := 122) rfl (by omega)),
      f2_30,
      if_neg (own_nltc (x := x) (c := 192) (k := 192) rfl (by omega)),
      if_pos (own_clt (x := x) (c := 214) (k := 214) rfl (by omega)),
      f2_44,
      if_neg (own_nltc (x := x) (c := 216) (k := 216) rfl (by omega)),
      if_pos (own_clt (x := x) (c := 246) (k := 246) rfl (by omega)),
      f2_58,
      if_neg (own_nltc (x := x) (c := 248) (k := 248) rfl (by omega)),
      if_pos (own_clt (x := x) (c := 767) (k := 767) rfl (by omega)),
      f2_72,
      if_neg (own_nltc (x := x) (c := 880) (k := 880) rfl (by omega)),
      if_pos (own_clt (x := x) (c := 893) (k := 893) rfl (by omega)),
      f2_86,
      if_neg (own_nltc (x := x) (c := 895) (k := 895) rfl (by omega)),
      if_pos (own_clt (x := x) (c := 8191) (k := 8191) rfl (by omega)),
      f2_100,
      if_neg (own_nltc (x := x) (c := 8204) (k := 8204) rfl (by omega)),
      if_pos (own_clt (x := x) (c := 8205) (k := 8205) rfl (by omega)),
      f2_114,
      if_neg (own_nltc (x := x) (c := 8304) (k := 8304) rfl (by omega)),
      if_pos (own_clt (x := x) (c := 8591) (k := 8591) rfl (by omega)),
      f2_128,
      if_neg (own_nltc (x := x) (c := 11264) (k := 11264) rfl (by omega)),
      if_neg (own_nclt (x := x) (c := 12271) (k := 12271) rfl (by omega)),
      f2_191,
      f2_196]
  rw [f0_0, e1]
  rw [if_pos rfl, f0_12_4, e2, if_pos rfl]; rfl
theorem own_r22 (x : Int32) (h1 : 12272 ≤ x.toInt) (h2 : x.toInt ≤ 12288) : f0_0 x = 1 := by
  have e1 : f1_0 x = 1 := by
    rw [f1_0,
      if_neg (own_nltc (x := x) (c := 65) (k := 65) rfl (by omega)),
      if_neg (own_nltc (x := x) (c := 91) (k := 91) rfl (by omega)),
      if_pos (own_clt (x := x) (c := 94) (k := 94) rfl (by omega)),
      f1_22,
      if_neg (own_nec (x := x) (c := 96) (k := 96) rfl (by omega)),
      if_neg (own_nltc (x := x) (c := 123) (k := 123) rfl (by omega)),
      if_pos (own_clt (x := x) (c := 191) (k := 191) rfl (by omega)),
      f1_45,
      if_neg (own_nec (x := x) (c := 215) (k := 215) rfl (by omega)),
      if_neg (own_nec (x := x) (c := 247) (k := 247) rfl (by omega)),
      if_neg (own_nltc (x := x) (c := 768) (k := 768) rfl (by omega)),
      if_pos (own_clt (x := x) (c := 879) (k := 879) rfl (by omega)),
      f1_77,
      if_neg (own_nec (x := x) (c := 894) (k := 894) rfl (by omega)),
      if_neg (own_nltc (x := x) (c := 8192) (k := 8192) rfl (by omega)),
      if_pos (own_clt (x := x) (c := 8203) (k := 8203) rfl (by omega)),
      f1_102,
      if_neg (own_nltc (x := x) (c := 8206) (k := 8206) rfl (by omega)),
      if_pos (own_clt (x := x) (c := 8303) (k := 8303) rfl (by omega)),
      f1_118,
      if_neg (own_nltc (x := x) (c := 8592) (k := 8592) rfl (by omega)),
      if_pos (own_clt (x := x) (c := 11263) (k := 11263) rfl (by omega)),
      f1_134,
      if_neg (own_nltc (x := x) (c := 12272) (k := 12272) rfl (by omega)),
      if_neg (own_nclt (x := x) (c := 12288) (k := 12288) rfl (by omega))]
  have e2 : f2_0 x = 0 := by
    rw [f2_0,
      if_neg (own_nltc (x := x) (c := 65) (k := 65) rfl (by omega)),
      if_pos (own_clt (x := x) (c := 90) (k := 90) rfl (by omega)),
      f2_12,
      if_neg (own_nec (x := x) (c := 95) (k := 95) rfl (by omega)),
      if_neg (own_nltc (x := x) (c := 97) (k := 97) rfl (by omega)),
      if_pos (own_clt (x := x) (c := 122) (k := 122) rfl (by omega)),
      f2_30,
      if_neg (own_nltc (x := x) (c := 192) (k := 192) rfl (by omega)),
      if_pos (own_clt (x := x) (c := 214) (k := 214) rfl (by omega)),
      f2_44,
      if_neg (own_nltc (x := x) (c := 216) (k := 216) rfl (by omega)),
      if_pos (own_clt (x := x) (c := 246) (k := 246) rfl (by omega)),
      f2_58,
      if_neg (own_nltc (x := x) (c := 248) (k := 248) rfl (by omega)),
      if_pos (own_clt (x := x) (c := 767) (k := 767) rfl (by omega)),
      f2_72,
      if_neg (own_nltc (x := x) (c := 880) (k := 880) rfl (by omega)),
      if_pos (own_clt (x := x) (c := 893) (k := 893) rfl (by omega)),
      f2_86,
      if_neg (own_nltc (x := x) (c := 895) (k := 895) rfl (by omega)),
      if_pos (own_clt (x := x) (c := 8191) (k := 8191) rfl (by omega)),
      f2_100,
      if_neg (own_nltc (x := x) (c := 8204) (k := 8204) rfl (by omega)),
      if_pos (own_clt (x := x) (c := 8205) (k := 8205) rfl (by omega)),
      f2_114,
      if_neg (own_nltc (x := x) (c := 8304) (k := 8304) rfl (by omega)),
      if_pos (own_clt (x := x) (c := 8591) (k := 8591) rfl (by omega)),
      f2_128,
      if_neg (own_nltc (x := x) (c := 11264) (k := 11264) rfl (by omega)),
      if_pos (own_clt (x := x) (c := 12271) (k := 12271) rfl (by omega)),
      f2_142,
      if_pos (own_ltc (x := x) (c := 12289) (k := 12289) rfl (by omega)),
      f2_155,
      if_pos (own_ltc (x := x) (c := 63744) (k := 63744) rfl (by omega)),
      f2_167,
      if_pos (own_ltc (x := x) (c := 65008) (k := 65008) rfl (by omega)),
      f2_179,
      if_pos (own_ltc (x := x) (c := 65536) (k := 65536) rfl (by omega)),
      f2_195,
      f2_196_17]
  rw [f0_0, e1]
  rw [if_neg (by decide), f0_12, e2, if_pos rfl]; rfl
theorem own_r23 (x : Int32) (h1 : 12289 ≤ x.toInt) (h2 : x.toInt ≤ 55295) : f0_0 x = 1 := by
  have e1 : f1_0 x = 0 := by
    rw [f1_0,
      if_neg (own_nltc (x := x) (c := 65) (k := 65) rfl (by omega)),
      if_neg (own_nltc (x := x) (c := 91) (k := 91) rfl (by omega)),
      if_pos (own_clt (x := x) (c := 94) (k := 94) rfl (by omega)),
      f1_22,
      if_neg (own_nec (x := x) (c := 96) (k := 96) rfl (by omega)),
      if_neg (own_nltc (x := x) (c := 123) (k := 123) rfl (by omega)),
      if_pos (own_clt (x := x) (c := 191) (k := 191) rfl (by omega)),
      f1_45,
      if_neg (own_nec (x := x) (c := 215) (k := 215) rfl (by omega)),
      if_neg (own_nec (x := x) (c := 247) (k := 247) rfl (by omega)),
      if_neg (own_nltc (x := x) (c := 768) (k := 768) rfl (by omega)),
      if_pos (own_clt (x := x) (c := 879) (k := 879) rfl (by omega)),
      f1_77,
      if_neg (own_nec (x := x) (c := 894) (k := 894) rfl (by omega)),
      if_neg (own_nltc (x := x) (c := 8192) (k := 8192) rfl (by omega)),
      if_pos (own_clt (x := x) (c := 8203) (k := 8203) rfl (by omega)),
      f1_102,
      if_neg (own_nltc (x := x) (c := 8206) (k := 8206) rfl (by omega)),
      if_pos (own_clt (x := x) (c := 8303) (k := 8303) rfl (by omega)),
      f1_118,
      if_neg (own_nltc (x := x) (c := 8592) (k := 8592) rfl (by omega)),
      if_pos (own_clt (x := x) (c := 11263) (k := 11263) rfl (by omega)),
      f1_134,
      if_neg (own_nltc (x := x) (c := 12272) (k := 12272) rfl (by omega)),
      if_pos (own_clt (x := x) (c := 12288) (k := 12288) rfl (by omega)),
      f1_150,
      if_pos (own_ltc (x := x) (c := 55296) (k := 55296) rfl (by omega)),
      f1_164,
      if_pos (own_ltc (x := x) (c := 64976) (k := 64976) rfl (by omega)),
      f1_178,
      if_pos (own_ltc (x := x) (c := 65534) (k := 65534) rfl (by omega)),
      f1_192,
      if_neg (own_nclt (x := x) (c := 983039) (k := 983039) rfl (by omega))]
  have e2 : f2_0 x = 1 := by
    rw [f2_0,
      if_neg (own_nltc (x := x) (c := 65) (k := 65) rfl (by omega)),
      if_pos (own_clt (x := x) (c := 90) (k := 90) rfl (by omega)),
      f2_12,
      if_neg (own_nec (x := x) (c := 95) (k := 95) rfl (by omega)),
      if_neg (own_nltc (x := x) (c := 97) (k := 97) rfl (by omega)),
      if_pos (own_clt (x := x) (c := 122) (k := 122) rfl (by omega)),
      f2_30,
      if_neg (own_nltc (x := x) (c := 192) (k := 192) rfl (by omega)),
      if_pos (own_clt (x := x) (c := 214) (k := 214) rfl (by omega)),
      f2_44,
      if_neg (own_nltc (x := x) (c := 216) (k := 216) rfl (by omega)),
      if_pos (own_clt (x := x) (c := 246) (k := 246) rfl (by omega)),
      f2_58,
      if_neg (own_nltc (x := x) (c := 248) (k := 248) rfl (by omega)),
      if_pos (own_clt (x := x) (c := 767) (k := 767) rfl (by omega)),
      f2_72,
      if_neg (own_nltc (x := x) (c := 880) (k := 880) rfl (by omega)),
      if_pos (own_clt (x := x) (c := 893) (k := 893) rfl (by omega)),
      f2_86,
      if_neg (own_nltc (x := x) (c := 895) (k := 895) rfl (by omega)),
      if_pos (own_clt (x := x) (c := 8191) (k := 8191) rfl (by omega)),
      f2_100,
      if_neg (own_nltc (x := x) (c := 8204) (k := 8204) rfl (by omega)),
      if_pos (own_clt (x := x) (c := 8205) (k := 8205) rfl (by omega)),
      f2_114,
      if_neg (own_nltc (x := x) (c := 8304) (k := 8304) rfl (by omega)),
      if_pos (own_clt (x := x) (c := 8591) (k := 8591) rfl (by omega)),
      f2_128,
      if_neg (own_nltc (x := x) (c := 11264) (k := 11264) rfl (by omega)),
      if_pos (own_clt (x := x) (c := 12271) (k := 12271) rfl (by omega)),
      f2_142,
      if_neg (own_nltc (x := x) (c := 12289) (k := 12289) rfl (by omega)),
      if_neg (own_nclt (x := x) (c := 55295) (k := 55295) rfl (by omega)),
      f2_191,
      f2_196]
  rw [f0_0, e1]
  rw [if_pos rfl, f0_12_4, e2, if_pos rfl]; rfl
theorem own_r24 (x : Int32) (h1 : 55296 ≤ x.toInt) (h2 : x.toInt ≤ 63743) : f0_0 x = 1 := by
  have e1 : f1_0 x = 1 := by
    rw [f1_0,
      if_neg (own_nltc (x := x) (c := 65) (k := 65) rfl (by omega)),
      if_neg (own_nltc (x := x) (c := 91) (k := 91) rfl (by omega)),
      if_pos (own_clt (x := x) (c := 94) (k := 94) rfl (by omega)),
      f1_22,
      if_neg (own_nec (x := x) (c := 96) (k := 96) rfl (by omega)),
      if_neg (own_nltc (x := x) (c := 123) (k := 123) rfl (by omega)),
      if_pos (own_clt (x := x) (c := 191) (k := 191) rfl (by omega)),
      f1_45,
      if_neg (own_nec (x := x) (c := 215) (k := 215) rfl (by omega)),
      if_neg (own_nec (x := x) (c := 247) (k := 247) rfl (by omega)),
      if_neg (own_nltc (x := x) (c := 768) (k := 768) rfl (by omega)),
      if_pos (own_clt (x := x) (c := 879) (k := 879) rfl (by omega)),
      f1_77,
      if_neg (own_nec (x := x) (c := 894) (k := 894) rfl (by omega)),
      if_neg (own_nltc (x := x) (c := 8192) (k := 8192) rfl (by omega)),
      if_pos (own_clt (x := x) (c := 8203) (k := 8203) rfl (by omega)),
      f1_102,
      if_neg (own_nltc (x := x) (c := 8206) (k := 8206) rfl (by omega)),
      if_pos (own_clt (x := x) (c := 8303) (k := 8303) rfl (by omega)),
      f1_118,
      if_neg (own_nltc (x := x) (c := 8592) (k := 8592) rfl (by omega)),
      if_pos (own_clt (x := x) (c := 11263) (k := 11263) rfl (by omega)),
      f1_134,
      if_neg (own_nltc (x := x) (c := 12272) (k := 12272) rfl (by omega)),
      if_pos (own_clt (x := x) (c := 12288) (k := 12288) rfl (by omega)),
      f1_150,
      if_neg (own_nltc (x := x) (c := 55296) (k := 55296) rfl (by omega)),
      if_neg (own_nclt (x := x) (c := 63743) (k := 63743) rfl (by omega))]
  have e2 : f2_0 x = 0 := by
    rw [f2_0,
      if_neg (own_nltc (x := x) (c := 65) (k := 65) rfl (by omega)),
      if_pos (own_clt (x := x) (c := 90) (k := 90) rfl (by omega)),
      f2_12,
      if_neg (own_nec (x := x) (c := 95) (k := 95) rfl (by omega)),
      if_neg (own_nltc (x := x) (c := 97) (k := 97) rfl (by omega)),
      if_pos (own_clt (x := x) (c := 122) (k := 122) rfl (by omega)),
      f2_30,
      if_neg (own_nltc (x := x) (c := 192) (k := 192) rfl (by omega)),
      if_pos (own_clt (x := x) (c := 214) (k := 214) rfl (by omega)),
      f2_44,
      if_neg (own_nltc (x := x) (c := 216) (k := 216) rfl (by omega)),
      if_pos (own_clt (x := x) (c := 246) (k := 246) rfl (by omega)),
      f2_58,
      if_neg (own_nltc (x := x) (c := 248) (k := 248) rfl (by omega)),
      if_pos (own_clt (x := x) (c := 767) (k := 767) rfl (by omega)),
      f2_72,
      if_neg (own_nltc (x := x) (c := 880) (k := 880) rfl (by omega)),
      if_pos (own_clt (x := x) (c := 893) (k := 893) rfl (by omega)),
      f2_86,
      if_neg (own_nltc (x := x) (c := 895) (k := 895) rfl (by omega)),
      if_pos (own_clt (x := x) (c := 8191) (k := 8191) rfl (by omega)),
      f2_100,
      if_neg (own_nltc (x := x) (c := 8204) (k := 8204) rfl (by omega)),
      if_pos (own_clt (x := x) (c := 8205) (k := 8205) rfl (by omega)),
      f2_114,
      if_neg (own_nltc (x := x) (c := 8304) (k := 8304) rfl (by omega)),
      if_pos (own_clt (x := x) (c := 8591) (k := 8591) rfl (by omega)),
      f2_128,
      if_neg (own_nltc (x := x) (c := 11264) (k := 11264) rfl (by omega)),
      if_pos (own_clt (x := x) (c := 12271) (k := 12271) rfl (by omega)),
      f2_142,
      if_neg (own_nltc (x := x) (c := 12289) (k := 12289) rfl (by omega)),
      if_pos (own_clt (x := x) (c := 55295) (k := 55295) rfl (by omega)),
      f2_155,
      if_pos (own_ltc (x := x) (c := 63744) (k := 63744) rfl (by omega)),
      f2_167,
      if_pos (own_ltc (x := x) (c := 65008) (k := 65008) rfl (by omega)),
      f2_179,
      if_pos (own_ltc (x := x) (c := 65536) (k := 65536) rfl (by omega)),
      f2_195,
      f2_196_17]
  rw [f0_0, e1]
  rw [if_neg (by decide), f0_12, e2, if_pos rfl]; rfl
theorem own_r25 (x : Int32) (h1 : 63744 ≤ x.toInt) (h2 : x.toInt ≤ 64975) : f0_0 x = 1 := by
  have e1 : f1_0 x = 0 := by
    rw [f1_0,
      if_neg (own_nltc (x := x) (c := 65) (k := 65) rfl (by omega)),
      if_neg (own_nltc (x := x) (c := 91) (k := 91) rfl (by omega)),
      if_pos (own_clt (x := x) (c := 94) (k := 94) rfl (by omega)),
      f1_22,
      if_neg (own_nec (x := x) (c := 96) (k := 96) rfl (by omega)),
      if_neg (own_nltc (x := x) (c := 123) (k := 123) rfl (by omega)),
      if_pos (own_clt (x := x) (c := 191) (k := 191) rfl (by omega)),
      f1_45,
      if_neg (own_nec (x := x) (c := 215) (k := 215) rfl (by omega)),
      if_neg (own_nec (x := x) (c := 247) (k := 247) rfl (by omega)),
      if_neg (own_nltc (x := x) (c := 768) (k := 768) rfl (by omega)),
      if_pos (own_clt (x := x) (c := 879) (k := 879) rfl (by omega)),
      f1_77,
      if_neg (own_nec (x := x) (c := 894) (k := 894) rfl (by omega)),
      if_neg (own_nltc (x := x) (c := 8192) (k := 8192) rfl (by omega)),
      if_pos (own_clt (x := x) (c := 8203) (k := 8203) rfl (by omega)),
      f1_102,
      if_neg (own_nltc (x := x) (c := 8206) (k := 8206) rfl (by omega)),
      if_pos (own_clt (x := x) (c := 8303) (k := 8303) rfl (by omega)),
      f1_118,
      if_neg (own_nltc (x := x) (c := 8592) (k := 8592) rfl (by omega)),
      if_pos (own_clt (x := x) (c := 11263) (k := 11263) rfl (by omega)),
      f1_134,
      if_neg (own_nltc (x := x) (c := 12272) (k := 12272) rfl (by omega)),
      if_pos (own_clt (x := x) (c := 12288) (k := 12288) rfl (by omega)),
      f1_150,
      if_neg (own_nltc (x := x) (c := 55296) (k := 55296) rfl (by omega)),
      if_pos (own_clt (x := x) (c := 63743) (k := 63743) rfl (by omega)),
      f1_164,
      if_pos (own_ltc (x := x) (c := 64976) (k := 64976) rfl (by omega)),
      f1_178,
      if_pos (own_ltc (x := x) (c := 65534) (k := 65534) rfl (by omega)),
      f1_192,
      if_neg (own_nclt (x := x) (c := 983039) (k := 983039) rfl (by omega))]
  have e2 : f2_0 x = 1 := by
    rw [f2_0,
      if_neg (own_nltc (x := x) (c := 65) (k := 65) rfl (by omega)),
      if_pos (own_clt (x := x) (c := 90) (k := 90) rfl (by omega)),
      f2_12,
      if_neg (own_nec (x := x) (c := 95) (k := 95) rfl (by omega)),
      if_neg (own_nltc (x := x) (c := 97) (k := 97) rfl (by omega)),
      if_pos (own_clt (x := x) (c := 122) (k := 122) rfl (by omega)),
      f2_30,
      if_neg (own_nltc (x := x) (c := 192) (k := 192) rfl (by omega)),
      if_pos (own_clt (x := x) (c := 214) (k := 214) rfl (by omega)),
      f2_44,
      if_neg (own_nltc (x := x) (c := 216) (k := 216) rfl (by omega)),
      if_pos (own_clt (x := x) (c := 246) (k := 246) rfl (by omega)),
      f2_58,
      if_neg (own_nltc (x := x) (c := 248) (k := 248) rfl (by omega)),
      if_pos (own_clt (x := x) (c := 767) (k := 767) rfl (by omega)),
      f2_72,
      if_neg (own_nltc (x := x) (c := 880) (k := 880) rfl (by omega)),
      if_pos (own_clt (x := x) (c := 893) (k := 893) rfl (by omega)),
      f2_86,
      if_neg (own_nltc (x := x) (c := 895) (k := 895) rfl (by omega)),
      if_pos (own_clt (x := x) (c := 8191) (k := 8191) rfl (by omega)),
      f2_100,
      if_neg (own_nltc (x := x) (c := 8204) (k := 8204) rfl (by omega)),
      if_pos (own_clt (x := x) (c := 8205) (k := 8205) rfl (by omega)),
      f2_114,
      if_neg (own_nltc (x := x) (c := 8304) (k := 8304) rfl (by omega)),
      if_pos (own_clt (x := x) (c := 8591) (k := 8591) rfl (by omega)),
      f2_128,
      if_neg (own_nltc (x := x) (c := 11264) (k := 11264) rfl (by omega)),
      if_pos (own_clt (x := x) (c := 12271) (k := 12271) rfl (by omega)),
      f2_142,
      if_neg (own_nltc (x := x) (c := 12289) (k := 12289) rfl (by omega)),
      if_pos (own_clt (x := x) (c := 55295) (k := 55295) rfl (by omega)),
      f2_155,
      if_neg (own_nltc (x := x) (c := 63744) (k := 63744) rfl (by omega)),
      if_neg (own_nclt (x := x) (c := 64975) (k := 64975) rfl (by omega)),
      f2_191,
      f2_196]
  rw [f0_0, e1]
  rw [if_pos rfl, f0_12_4, e2, if_pos rfl]; rfl
theorem own_r26 (x : Int32) (h1 : 64976 ≤ x.toInt) (h2 : x.toInt ≤ 65007) : f0_0 x = 1 := by
  have e1 : f1_0 x = 1 := by
    rw [f1_0,
      if_neg (own_nltc (x := x) (c := 65) (k := 65) rfl (by omega)),
      if_neg (own_nltc (x := x) (c := 91) (k := 91) rfl (by omega)),
      if_pos (own_clt (x := x) (c := 94) (k := 94) rfl (by omega)),
      f1_22,
      if_neg (own_nec (x := x) (c := 96) (k := 96) rfl (by omega)),
      if_neg (own_nltc (x := x) (c := 123) (k := 123) rfl (by omega)),
      if_pos (own_clt (x := x) (c := 191) (k := 191) rfl (by omega)),
      f1_45,
      if_neg (own_nec (x := x) (c := 215) (k := 215) rfl (by omega)),
      if_neg (own_nec (x := x) (c := 247) (k := 247) rfl (by omega)),
      if_neg (own_nltc (x := x) (c := 768) (k := 768) rfl (by omega)),
      if_pos (own_clt (x := x) (c := 879) (k := 879) rfl (by omega)),
      f1_77,
      if_neg (own_nec (x := x) (c := 894) (k := 894) rfl (by omega)),
      if_neg (own_nltc (x := x) (c := 8192) (k := 8192) rfl (by omega)),
      if_pos (own_clt (x := x) (c := 8203) (k := 8203) rfl (by omega)),
      f1_102,
      if_neg (own_nltc (x := x) (c := 8206) (k := 8206) rfl (by omega)),
      if_pos (own_clt (x := x) (c := 8303) (k := 8303) rfl (by omega)),
      f1_118,
      if_neg (own_nltc (x := x) (c := 8592) (k := 8592) rfl (by omega)),
      if_pos (own_clt (x := x) (c := 11263) (k := 11263) rfl (by omega)),
      f1_134,
      if_neg (own_nltc (x := x) (c := 12272) (k := 12272) rfl (by omega)),
      if_pos (own_clt (x := x) (c := 12288) (k := 12288) rfl (by omega)),
      f1_150,
      if_neg (own_nltc (x := x) (c := 55296) (k := 55296) rfl (by omega)),
      if_pos (own_clt (x := x) (c := 63743) (k := 63743) rfl (by omega)),
      f1_164,
      if_neg (own_nltc (x := x) (c := 64976) (k := 64976) rfl (by omega)),
      if_neg (own_nclt (x := x) (c := 65007) (k := 65007) rfl (by omega))]
  have e2 : f2_0 x = 0 := by
    rw [f2_0,
      if_neg (own_nltc (x := x) (c := 65) (k := 65) rfl (by omega)),
      if_pos (own_clt (x := x) (c := 90) (k := 90) rfl (by omega)),
      f2_12,
      if_neg (own_nec (x := x) (c := 95) (k := 95) rfl (by omega)),
      if_neg (own_nltc (x := x) (c := 97) (k := 97) rfl (by omega)),
      if_pos (own_clt (x := x) (c := 122) (k := 122) rfl (by omega)),
      f2_30,
      if_neg (own_nltc (x := x) (c := 192) (k := 192) rfl (by omega)),
      if_pos (own_clt (x := x) (c := 214) (k := 214) rfl (by omega)),
      f2_44,
      if_neg (own_nltc (x := x) (c := 216) (k := 216) rfl (by omega)),
      if_pos (own_clt (x := x) (c := 246) (k := 246) rfl (by omega)),
      f2_58,
      if_neg (own_nltc (x := x) (c := 248) (k := 248) rfl (by omega)),
      if_pos (own_clt (x := x) (c := 767) (k := 767) rfl (by omega)),
      f2_72,
      if_neg (own_nltc (x := x) (c := 880) (k := 880) rfl (by omega)),
      if_pos (own_clt (x := x) (c := 893) (k := 893) rfl (by omega)),
      f2_86,
      if_neg (own_nltc (x := x) (c := 895) (k := 895) rfl (by omega)),
      if_pos (own_clt (x := x) (c := 8191) (k := 8191) rfl (by omega)),
      f2_100,
      if_neg (own_nltc (x := x) (c := 8204) (k := 8204) rfl (by omega)),
      if_pos (own_clt (x := x) (c := 8205) (k := 8205) rfl (by omega)),
      f2_114,
      if_neg (own_nltc (x := x) (c := 8304) (k := 8304) rfl (by omega)),
      if_pos (own_clt (x := x) (c := 8591) (k := 8591) rfl (by omega)),
      f2_128,
      if_neg (own_nltc (x := x) (c := 11264) (k := 11264) rfl (by omega)),
      if_pos (own_clt (x := x) (c := 12271) (k := 12271) rfl (by omega)),
      f2_142,
      if_neg (own_nltc (x := x) (c := 12289) (k := 12289) rfl (by omega)),
      if_pos (own_clt (x := x) (c := 55295) (k := 55295) rfl (by omega)),
      f2_155,
      if_neg (own_nltc (x := x) (c := 63744) (k := 63744) rfl (by omega)),
      if_pos (own_clt (x := x) (c := 64975) (k := 64975) rfl (by omega)),
      f2_167,
      if_pos (own_ltc (x := x) (c := 65008) (k := 65008) rfl (by omega)),
      f2_179,
      if_pos (own_ltc (x := x) (c := 65536) (k := 65536) rfl (by omega)),
      f2_195,
      f2_196_17]
  rw [f0_0, e1]
  rw [if_neg (by decide), f0_12, e2, if_pos rfl]; rfl
theorem own_r27 (x : Int32) (h1 : 65008 ≤ x.toInt) (h2 : x.toInt ≤ 65533) : f0_0 x = 1 := by
  have e1 : f1_0 x = 0 := by
    rw [f1_0,
      if_neg (own_nltc (x := x) (c := 65) (k := 65) rfl (by omega)),
      if_neg (own_nltc (x := x) (c := 91) (k := 91) rfl (by omega)),
      if_pos (own_clt (x := x) (c := 94) (k := 94) rfl (by omega)),
      f1_22,
      if_neg (own_nec (x := x) (c := 96) (k := 96) rfl (by omega)),
      if_neg (own_nltc (x := x) (c := 123) (k := 123) rfl (by omega)),
      if_pos (own_clt (x := x) (c := 191) (k := 191) rfl (by omega)),
      f1_45,
      if_neg (own_nec (x := x) (c := 215) (k := 215) rfl (by omega)),
      if_neg (own_nec (x := x) (c := 247) (k := 247) rfl (by omega)),
      if_neg (own_nltc (x := x) (c := 768) (k := 768) rfl (by omega)),
      if_pos (own_clt (x := x) (c := 879) (k := 879) rfl (by omega)),
      f1_77,
      if_neg (own_nec (x := x) (c := 894) (k := 894) rfl (by omega)),
      if_neg (own_nltc (x := x) (c := 8192) (k := 8192) rfl (by omega)),
      if_pos (own_clt (x := x) (c := 8203) (k := 8203) rfl (by omega)),
      f1_102,
      if_neg (own_nltc (x := x) (c := 8206) (k := 8206) rfl (by omega)),
      if_pos (own_clt (x := x) (c := 8303) (k := 8303) rfl (by omega)),
      f1_118,
      if_neg (own_nltc (x := x) (c := 8592) (k := 8592) rfl (by omega)),
      if_pos (own_clt (x := x) (c := 11263) (k := 11263) rfl (by omega)),
      f1_134,
      if_neg (own_nltc (x := x) (c := 12272) (k := 12272) rfl (by omega)),
      if_pos (own_clt (x := x) (c := 12288) (k := 12288) rfl (by omega)),
      f1_150,
      if_neg (own_nltc (x := x) (c := 55296) (k := 55296) rfl (by omega)),
      if_pos (own_clt (x := x) (c := 63743) (k := 63743) rfl (by omega)),
      f1_164,
      if_neg (own_nltc (x := x) (c := 64976) (k := 64976) rfl (by omega)),
      if_pos (own_clt (x := x) (c := 65007) (k := 65007) rfl (by omega)),
      f1_178,
      if_pos (own_ltc (x := x) (c := 65534) (k := 65534) rfl (by omega)),
      f1_192,
      if_neg (own_nclt (x := x) (c := 983039) (k := 983039) rfl (by omega))]
  have e2 : f2_0 x = 1 := by
    rw [f2_0,
      if_neg (own_nltc (x := x) (c := 65) (k := 65) rfl (by omega)),
      if_pos (own_clt (x := x) (c := 90) (k := 90) rfl (by omega)),
      f2_12,
      if_neg (own_nec (x := x) (c := 95) (k := 95) rfl (by omega)),
      if_neg (own_nltc (x := x) (c := 97) (k := 97) rfl (by omega)),
      if_pos (own_clt (x := x) (c := 122) (k := 122) rfl (by omega)),
      f2_30,
      if_neg (own_nltc (x := x) (c := 192) (k := 192) rfl (by omega)),
      if_pos (own_clt (x := x) (c := 214) (k := 214) rfl (by omega)),
      f2_44,
      if_neg (own_nltc (x := x) (c := 216) (k := 216) rfl (by omega)),
      if_pos (own_clt (x := x) (c := 246) (k := 246) rfl (by omega)),
      f2_58,
      if_neg (own_nltc (x := x) (c := 248) (k := 248) rfl (by omega)),
      if_pos (own_clt (x := x) (c := 767) (k := 767) rfl (by omega)),
      f2_72,
      if_neg (own_nltc (x := x) (c := 880) (k := 880) rfl (by omega)),
      if_pos (own_clt (x := x) (c := 893) (k := 893) rfl (by omega)),
      f2_86,
      if_neg (own_nltc (x := x) (c := 895) (k := 895) rfl (by omega)),
      if_pos (own_clt (x := x) (c := 8191) (k := 8191) rfl (by omega)),
      f2_100,
      if_neg (own_nltc (x := x) (c := 8204) (k := 8204) rfl (by omega)),
      if_pos (own_clt (x := x) (c := 8205) (k := 8205) rfl (by omega)),
      f2_114,
      if_neg (own_nltc (x := x) (c := 8304) (k := 8304) rfl (by omega)),
      if_pos (own_clt (x := x) (c := 8591) (k := 8591) rfl (by omega)),
      f2_128,
      if_neg (own_nltc (x := x) (c := 11264) (k := 11264) rfl (by omega)),
      if_pos (own_clt (x := x) (c := 12271) (k := 12271) rfl (by omega)),
      f2_142,
      if_neg (own_nltc (x := x) (c := 12289) (k := 12289) rfl (by omega)),
      if_pos (own_clt (x := x) (c := 55295) (k := 55295) rfl (by omega)),
      f2_155,
      if_neg (own_nltc (x := x) (c := 63744) (k := 63744) rfl (by omega)),
      if_pos (own_clt (x := x) (c := 64975) (k := 64975) rfl (by omega)),
      f2_167,
      if_neg (own_nltc (x := x) (c := 65008) (k := 65008) rfl (by omega)),
      if_neg (own_nclt (x := x) (c := 65533) (k := 65533) rfl (by omega)),
      f2_191,
      f2_196]
  rw [f0_0, e1]
  rw [if_pos rfl, f0_12_4, e2, if_pos rfl]; rfl
theorem own_r28 (x : Int32) (h1 : 65534 ≤ x.toInt) (h2 : x.toInt ≤ 65535) : f0_0 x = 1 := by
  have e1 : f1_0 x = 1 := by
    rw [f1_0,
      if_neg (own_nltc (x := x) (c := 65) (k := 65) rfl (by omega)),
      if_neg (own_nltc (x := x) (c := 91) (k := 91) rfl (by omega)),
      if_pos (own_clt (x := x) (c := 94) (k := 94) rfl (by omega)),
      f1_22,
      if_neg (own_nec (x := x) (c := 96) (k := 96) rfl (by omega)),
      if_neg (own_nltc (x := x) (c := 123) (k := 123) rfl (by omega)),
      if_pos (own_clt (x := x) (c := 191) (k := 191) rfl (by omega)),
      f1_45,
      if_neg (own_nec (x := x) (c := 215) (k := 215) rfl (by omega)),
      if_neg (own_nec (x := x) (c := 247) (k := 247) rfl (by omega)),
      if_neg (own_nltc (x := x) (c := 768) (k := 768) rfl (by omega)),
      if_pos (own_clt (x := x) (c := 879) (k := 879) rfl (by omega)),
      f1_77,
      if_neg (own_nec (x := x) (c := 894) (k := 894) rfl (by omega)),
      if_neg (own_nltc (x := x) (c := 8192) (k := 8192) rfl (by omega)),
      if_pos (own_clt (x := x) (c := 8203) (k := 8203) rfl (by omega)),
      f1_102,
      if_neg (own_nltc (x := x) (c := 8206) (k := 8206) rfl (by omega)),
      if_pos (own_clt (x := x) (c := 8303) (k := 8303) rfl (by omega)),
      f1_118,
      if_neg (own_nltc (x := x) (c := 8592) (k := 8592) rfl (by omega)),
      if_pos (own_clt (x := x) (c := 11263) (k := 11263) rfl (by omega)),
      f1_134,
      if_neg (own_nltc (x := x) (c := 12272) (k := 12272) rfl (by omega)),
      if_pos (own_clt (x := x) (c := 12288) (k := 12288) rfl (by omega)),
      f1_150,
      if_neg (own_nltc (x := x) (c := 55296) (k := 55296) rfl (by omega)),
      if_pos (own_clt (x := x) (c := 63743) (k := 63743) rfl (by omega)),
      f1_164,
      if_neg (own_nltc (x := x) (c := 64976) (k := 64976) rfl (by omega)),
      if_pos (own_clt (x := x) (c := 65007) (k := 65007) rfl (by omega)),
      f1_178,
      if_neg (own_nltc (x := x) (c := 65534) (k := 65534) rfl (by omega)),
      if_neg (own_nclt (x := x) (c := 65535) (k := 65535) rfl (by omega))]
  have e2 : f2_0 x = 0 := by
    rw [f2_0,
      if_neg (own_nltc (x := x) (c := 65) (k := 65) rfl (by omega)),
      if_pos (own_clt (x := x) (c := 90) (k := 90) rfl (by omega)),
      f2_12,
      if_neg (own_nec (x := x) (c := 95) (k := 95) rfl (by omega)),
      if_neg (own_nltc (x := x) (c := 97) (k := 97) rfl (by omega)),
      if_pos (own_clt (x := x) (c := 122) (k := 122) rfl (by omega)),
      f2_30,
      if_neg (own_nltc (x := x) (c := 192) (k := 192) rfl (by omega)),
      if_pos (own_clt (x := x) (c := 214) (k := 214) rfl (by omega)),
      f2_44,
      if_neg (own_nltc (x := x) (c := 216) (k := 216) rfl (by omega)),
      if_pos (own_clt (x := x) (c := 246) (k := 246) rfl (by omega)),
      f2_58,
      if_neg (own_nltc (x := x) (c := 248) (k := 248) rfl (by omega)),
      if_pos (own_clt (x := x) (c := 767) (k := 767) rfl (by omega)),
      f2_72,
      if_neg (own_nltc (x := x) (c := 880) (k := 880) rfl (by omega)),
      if_pos (own_clt (x := x) (c := 893) (k := 893) rfl (by omega)),
      f2_86,
      if_neg (own_nltc (x := x) (c := 895) (k := 895) rfl (by omega)),
      if_pos (own_clt (x := x) (c := 8191) (k := 8191) rfl (by omega)),
      f2_100,
      if_neg (own_nltc (x := x) (c := 8204) (k := 8204) rfl (by omega)),
      if_pos (own_clt (x := x) (c := 8205) (k := 8205) rfl (by omega)),
      f2_114,
      if_neg (own_nltc (x := x) (c := 8304) (k := 8304) rfl (by omega)),
      if_pos (own_clt (x := x) (c := 8591) (k := 8591) rfl (by omega)),
      f2_128,
      if_neg (own_nltc (x := x) (c := 11264) (k := 11264) rfl (by omega)),
      if_pos (own_clt (x := x) (c := 12271) (k := 12271) rfl (by omega)),
      f2_142,
      if_neg (own_nltc (x := x) (c := 12289) (k := 12289) rfl (by omega)),
      if_pos (own_clt (x := x) (c := 55295) (k := 55295) rfl (by omega)),
      f2_155,
      if_neg (own_nltc (x := x) (c := 63744) (k := 63744) rfl (by omega)),
      if_pos (own_clt (x := x) (c := 64975) (k := 64975) rfl (by omega)),
      f2_167,
      if_neg (own_nltc (x := x) (c := 65008) (k := 65008) rfl (by omega)),
      if_pos (own_clt (x := x) (c := 65533) (k := 65533) rfl (by omega)),
      f2_179,
      if_pos (own_ltc (x := x) (c := 65536) (k := 65536) rfl (by omega)),
      f2_195,
      f2_196_17]
  rw [f0_0, e1]
  rw [if_neg (by decide), f0_12, e2, if_pos rfl]; rfl
theorem own_r29 (x : Int32) (h1 : 65536 ≤ x.toInt) (h2 : x.toInt ≤ 983039) : f0_0 x = 1 := by
  have e1 : f1_0 x = 0 := by
    rw [f1_0,
      if_neg (own_nltc (x := x) (c := 65) (k := 65) rfl (by omega)),
      if_neg (own_nltc (x := x) (c := 91) (k := 91) rfl (by omega)),
      if_pos (own_clt (x := x) (c := 94) (k := 94) rfl (by omega)),
      f1_22,
      if_neg (own_nec (x := x) (c := 96) (k := 96) rfl (by omega)),
      if_neg (own_nltc (x := x) (c := 123) (k := 123) rfl (by omega)),
      if_pos (own_clt (x := x) (c := 191) (k := 191) rfl (by omega)),
      f1_45,
      if_neg (own_nec (x := x) (c := 215) (k := 215) rfl (by omega)),
      if_neg (own_nec (x := x) (c := 247) (k := 247) rfl (by omega)),
      if_neg (own_nltc (x := x) (c := 768) (k := 768) rfl (by omega)),
      if_pos (own_clt (x := x) (c := 879) (k := 879) rfl (by omega)),
      f1_77,
      if_neg (own_nec (x := x) (c := 894) (k := 894) rfl (by omega)),
      if_neg (own_nltc (x := x) (c := 8192) (k := 8192) rfl (by omega)),
      if_pos (own_clt (x := x) (c := 8203) (k := 8203) rfl (by omega)),
      f1_102,
      if_neg (own_nltc (x := x) (c := 8206) (k := 8206) rfl (by omega)),
      if_pos (own_clt (x := x) (c := 8303) (k := 8303) rfl (by omega)),
      f1_118,
      if_neg (own_nltc (x := x) (c := 8592) (k := 8592) rfl (by omega)),
      if_pos (own_clt (x := x) (c := 11263) (k := 11263) rfl (by omega)),
      f1_134,
      if_neg (own_nltc (x := x) (c := 12272) (k := 12272) rfl (by omega)),
      if_pos (own_clt (x := x) (c := 12288) (k := 12288) rfl (by omega)),
      f1_150,
      if_neg (own_nltc (x := x) (c := 55296) (k := 55296) rfl (by omega)),
      if_pos (own_clt (x := x) (c := 63743) (k := 63743) rfl (by omega)),
      f1_164,
      if_neg (own_nltc (x := x) (c := 64976) (k := 64976) rfl (by omega)),
      if_pos (own_clt (x := x) (c := 65007) (k := 65007) rfl (by omega)),
      f1_178,
      if_neg (own_nltc (x := x) (c := 65534) (k := 65534) rfl (by omega)),
      if_pos (own_clt (x := x) (c := 65535) (k := 65535) rfl (by omega)),
      f1_192,
      if_neg (own_nclt (x := x) (c := 983039) (k := 983039) rfl (by omega))]
  have e2 : f2_0 x = 1 := by
    rw [f2_0,
      if_neg (own_nltc (x := x) (c := 65) (k := 65) rfl (by omega)),
      if_pos (own_clt (x := x) (c := 90) (k := 90) rfl (by omega)),
      f2_12,
      if_neg (own_nec (x := x) (c := 95) (k := 95) rfl (by omega)),
      if_neg (own_nltc (x := x) (c := 97) (k := 97) rfl (by omega)),
      if_pos (own_clt (x := x) (c := 122) (k := 122) rfl (by omega)),
      f2_30,
      if_neg (own_nltc (x := x) (c := 192) (k := 192) rfl (by omega)),
      if_pos (own_clt (x := x) (c := 214) (k := 214) rfl (by omega)),
      f2_44,
      if_neg (own_nltc (x := x) (c := 216) (k := 216) rfl (by omega)),
      if_pos (own_clt (x := x) (c := 246) (k := 246) rfl (by omega)),
      f2_58,
      if_neg (own_nltc (x := x) (c := 248) (k := 248) rfl (by omega)),
      if_pos (own_clt (x := x) (c := 767) (k := 767) rfl (by omega)),
      f2_72,
      if_neg (own_nltc (x := x) (c := 880) (k := 880) rfl (by omega)),
      if_pos (own_clt (x := x) (c := 893) (k := 893) rfl (by omega)),
      f2_86,
      if_neg (own_nltc (x := x) (c := 895) (k := 895) rfl (by omega)),
      if_pos (own_clt (x := x) (c := 8191) (k := 8191) rfl (by omega)),
      f2_100,
      if_neg (own_nltc (x := x) (c := 8204) (k := 8204) rfl (by omega)),
      if_pos (own_clt (x := x) (c := 8205) (k := 8205) rfl (by omega)),
      f2_114,
      if_neg (own_nltc (x := x) (c := 8304) (k := 8304) rfl (by omega)),
      if_pos (own_clt (x := x) (c := 8591) (k := 8591) rfl (by omega)),
      f2_128,
      if_neg (own_nltc (x := x) (c := 11264) (k := 11264) rfl (by omega)),
      if_pos (own_clt (x := x) (c := 12271) (k := 12271) rfl (by omega)),
      f2_142,
      if_neg (own_nltc (x := x) (c := 12289) (k := 12289) rfl (by omega)),
      if_pos (own_clt (x := x) (c := 55295) (k := 55295) rfl (by omega)),
      f2_155,
      if_neg (own_nltc (x := x) (c := 63744) (k := 63744) rfl (by omega)),
      if_pos (own_clt (x := x) (c := 64975) (k := 64975) rfl (by omega)),
      f2_167,
      if_neg (own_nltc (x := x) (c := 65008) (k := 65008) rfl (by omega)),
      if_pos (own_clt (x := x) (c := 65533) (k := 65533) rfl (by omega)),
      f2_179,
      if_neg (own_nltc (x := x) (c := 65536) (k := 65536) rfl (by omega)),
      if_neg (own_nclt (x := x) (c := 983039) (k := 983039) rfl (by omega)),
      f2_191,
      f2_196]
  rw [f0_0, e1]
  rw [if_pos rfl, f0_12_4, e2, if_pos rfl]; rfl
theorem own_r30 (x : Int32) (h1 : 983040 ≤ x.toInt) (h2 : x.toInt ≤ 2147483647) : f0_0 x = 1 := by
  have e1 : f1_0 x = 1 := by
    rw [f1_0,
      if_neg (own_nltc (x := x) (c := 65) (k := 65) rfl (by omega)),
      if_neg (own_nltc (x := x) (c := 91) (k := 91) rfl (by omega)),
      if_pos (own_clt (x := x) (c := 94) (k := 94) rfl (by omega)),
      f1_22,
      if_neg (own_nec (x := x) (c := 96) (k := 96) rfl (by omega)),
      if_neg (own_nltc (x := x) (c := 123) (k := 123) rfl (by omega)),
      if_pos (own_clt (x := x) (c := 191) (k := 191) rfl (by omega)),
      f1_45,
      if_neg (own_nec (x := x) (c := 215) (k := 215) rfl (by omega)),
      if_neg (own_nec (x := x) (c := 247) (k := 247) rfl (by omega)),
      if_neg (own_nltc (x := x) (c := 768) (k := 768) rfl (by omega)),
      if_pos (own_clt (x := x) (c := 879) (k := 879) rfl (by omega)),
      f1_77,
      if_neg (own_nec (x := x) (c := 894) (k := 894) rfl (by omega)),
      if_neg (own_nltc (x := x) (c := 8192) (k := 8192) rfl (by omega)),
      if_pos (own_clt (x := x) (c := 8203) (k := 8203) rfl (by omega)),
      f1_102,
      if_neg (own_nltc (x := x) (c := 8206) (k := 8206) rfl (by omega)),
      if_pos (own_clt (x := x) (c := 8303) (k := 8303) rfl (by omega)),
      f1_118,
      if_neg (own_nltc (x := x) (c := 8592) (k := 8592) rfl (by omega)),
      if_pos (own_clt (x := x) (c := 11263) (k := 11263) rfl (by omega)),
      f1_134,
      if_neg (own_nltc (x := x) (c := 12272) (k := 12272) rfl (by omega)),
      if_pos (own_clt (x := x) (c := 12288) (k := 12288) rfl (by omega)),
      f1_150,
      if_neg (own_nltc (x := x) (c := 55296) (k := 55296) rfl (by omega)),
      if_pos (own_clt (x := x) (c := 63743) (k := 63743) rfl (by omega)),
      f1_164,
      if_neg (own_nltc (x := x) (c := 64976) (k := 64976) rfl (by omega)),
      if_pos (own_clt (x := x) (c := 65007) (k := 65007) rfl (by omega)),
      f1_178,
      if_neg (own_nltc (x := x) (c := 65534) (k := 65534) rfl (by omega)),
      if_pos (own_clt (x := x) (c := 65535) (k := 65535) rfl (by omega)),
      f1_192,
      if_pos (own_clt (x := x) (c := 983039) (k := 983039) rfl (by omega))]
  have e2 : f2_0 x = 0 := by
    rw [f2_0,
      if_neg (own_nltc (x := x) (c := 65) (k := 65) rfl (by omega)),
      if_pos (own_clt (x := x) (c := 90) (k := 90) rfl (by omega)),
      f2_12,
      if_neg (own_nec (x := x) (c := 95) (k := 95) rfl (by omega)),
      if_neg (own_nltc (x := x) (c := 97) (k := 97) rfl (by omega)),
      if_pos (own_clt (x := x) (c := 122) (k := 122) rfl (by omega)),
      f2_30,
      if_neg (own_nltc (x := x) (c := 192) (k := 192) rfl (by omega)),
      if_pos (own_clt (x := x) (c := 214) (k := 214) rfl (by omega)),
      f2_44,
      if_neg (own_nltc (x := x) (c := 216) (k := 216) rfl (by omega)),
      if_pos (own_clt (x := x) (c := 246) (k := 246) rfl (by omega)),
      f2_58,
      if_neg (own_nltc (x := x) (c := 248) (k := 248) rfl (by omega)),
      if_pos (own_clt (x := x) (c := 767) (k := 767) rfl (by omega)),
      f2_72,
      if_neg (own_nltc (x := x) (c := 880) (k := 880) rfl (by omega)),
      if_pos (own_clt (x := x) (c := 893) (k := 893) rfl (by omega)),
      f2_86,
      if_neg (own_nltc (x := x) (c := 895) (k := 895) rfl (by omega)),
      if_pos (own_clt (x := x) (c := 8191) (k := 8191) rfl (by omega)),
      f2_100,
      if_neg (own_nltc (x := x) (c := 8204) (k := 8204) rfl (by omega)),
      if_pos (own_clt (x := x) (c := 8205) (k := 8205) rfl (by omega)),
      f2_114,
      if_neg (own_nltc (x := x) (c := 8304) (k := 8304) rfl (by omega)),
      if_pos (own_clt (x := x) (c := 8591) (k := 8591) rfl (by omega)),
      f2_128,
      if_neg (own_nltc (x := x) (c := 11264) (k := 11264) rfl (by omega)),
      if_pos (own_clt (x := x) (c := 12271) (k := 12271) rfl (by omega)),
      f2_142,
      if_neg (own_nltc (x := x) (c := 12289) (k := 12289) rfl (by omega)),
      if_pos (own_clt (x := x) (c := 55295) (k := 55295) rfl (by omega)),
      f2_155,
      if_neg (own_nltc (x := x) (c := 63744) (k := 63744) rfl (by omega)),
      if_pos (own_clt (x := x) (c := 64975) (k := 64975) rfl (by omega)),
      f2_167,
      if_neg (own_nltc (x := x) (c := 65008) (k := 65008) rfl (by omega)),
      if_pos (own_clt (x := x) (c := 65533) (k := 65533) rfl (by omega)),
      f2_179,
      if_neg (own_nltc (x := x) (c := 65536) (k := 65536) rfl (by omega)),
      if_pos (own_clt (x := x) (c := 983039) (k := 983039) rfl (by omega)),
      f2_195,
      f2_196_17]
  rw [f0_0, e1]
  rw [if_neg (by decide), f0_12, e2, if_pos rfl]; rfl
theorem own_law (x : Int32) : f0_0 x = 1 := by
  have l := x.le_toInt
  have u := x.toInt_lt
  by_cases c0 : x.toInt ≤ 64
  · exact own_r0 x (by omega) c0
  by_cases c1 : x.toInt ≤ 90
  · exact own_r1 x (by omega) c1
  by_cases c2 : x.toInt ≤ 94
  · exact own_r2 x (by omega) c2
  by_cases c3 : x.toInt ≤ 95
  · exact own_r3 x (by omega) c3
  by_cases c4 : x.toInt ≤ 96
  · exact own_r4 x (by omega) c4
  by_cases c5 : x.toInt ≤ 122
  · exact own_r5 x (by omega) c5
  by_cases c6 : x.toInt ≤ 191
  · exact own_r6 x (by omega) c6
  by_cases c7 : x.toInt ≤ 214
  · exact own_r7 x (by omega) c7
  by_cases c8 : x.toInt ≤ 215
  · exact own_r8 x (by omega) c8
  by_cases c9 : x.toInt ≤ 246
  · exact own_r9 x (by omega) c9
  by_cases c10 : x.toInt ≤ 247
  · exact own_r10 x (by omega) c10
  by_cases c11 : x.toInt ≤ 767
  · exact own_r11 x (by omega) c11
  by_cases c12 : x.toInt ≤ 879
  · exact own_r12 x (by omega) c12
  by_cases c13 : x.toInt ≤ 893
  · exact own_r13 x (by omega) c13
  by_cases c14 : x.toInt ≤ 894
  · exact own_r14 x (by omega) c14
  by_cases c15 : x.toInt ≤ 8191
  · exact own_r15 x (by omega) c15
  by_cases c16 : x.toInt ≤ 8203
  · exact own_r16 x (by omega) c16
  by_cases c17 : x.toInt ≤ 8205
  · exact own_r17 x (by omega) c17
  by_cases c18 : x.toInt ≤ 8303
  · exact own_r18 x (by omega) c18
  by_cases c19 : x.toInt ≤ 8591
  · exact own_r19 x (by omega) c19
  by_cases c20 : x.toInt ≤ 11263
  · exact own_r20 x (by omega) c20
  by_cases c21 : x.toInt ≤ 12271
  · exact own_r21 x (by omega) c21
  by_cases c22 : x.toInt ≤ 12288
  · exact own_r22 x (by omega) c22
  by_cases c23 : x.toInt ≤ 55295
  · exact own_r23 x (by omega) c23
  by_cases c24 : x.toInt ≤ 63743
  · exact own_r24 x (by omega) c24
  by_cases c25 : x.toInt ≤ 64975
  · exact own_r25 x (by omega) c25
  by_cases c26 : x.toInt ≤ 65007
  · exact own_r26 x (by omega) c26
  by_cases c27 : x.toInt ≤ 65533
  · exact own_r27 x (by omega) c27
  by_cases c28 : x.toInt ≤ 65535
  · exact own_r28 x (by omega) c28
  by_cases c29 : x.toInt ≤ 983039
  · exact own_r29 x (by omega) c29
  exact own_r30 x (by omega) (by omega)

set_option maxRecDepth 65536 in
set_option maxHeartbeats 40000000 in
theorem comes_1 {Post : Tables → Env → Array Value → State → Outcome → State → Prop} (hpost : ∀ tb e args s v u, (limb_1_1.after args s (.returned v) u = true ∧ limb_1_2.after args s (.returned v) u = true) → FrameEnd s (.returned v) u (Jvm.fieldLocs frame_1_writes args s ++ Jvm.arrayLocs frame_1_arrays args s ++ Jvm.staticLocs frame_1_statics s) 0 0 → Post tb e args s (.returned v) u) :
    ArmFor flags0 classFile x code maxLocals ret World_1 tables_1 room_1 Calls_1 rest_1 Pre_1 Post := by
  intro l hfl _ _ p e ha hc hk s m args below hf hA hF happ hP
  obtain ⟨hcalls, hrest, hpre⟩ := hP
  obtain ⟨-, -, -, hnamed, -, -, -, hat⟩ := (Spec.applies_iff hf).mp happ
  obtain ⟨hg, hn⟩ := and_e (Cond.before_iff.mp (show (Jvm.Cond.and given_1 narrow_1).before args s = true from hpre))
  obtain ⟨g1a, g1b⟩ := and_e hg
  obtain ⟨w0, rfl⟩ : ∃ w0 : Value, args = #[w0] := by
    have hs : args.size = 1 := by simpa [Cond.value, given_1] using g1a
    obtain ⟨L⟩ := args
    match L, hs with
    | [w0], _ => exact ⟨w0, rfl⟩
  have hw := fun d (hd : d ∈ tables_1) => atoms_spec (ws := Jvm.Cond.code x code maxLocals ret :: tables_1) hat d (List.mem_cons_of_mem _ hd)
  obtain ⟨i0, ei0⟩ := is_v g1b
  obtain rfl : w0 = (.int i0) := Option.some.inj ei0
  obtain ⟨n, o, h1, h2, h3, v, L, rfl, ⟨rfl, rfl⟩, hq⟩ := rm0 l s _ hw tables_1 i0 s.heap p e ha hc hk s m _ below hf ((Spec.applies_iff_loose hf).mp happ).1 ⟨rfl, State.Warmed39.refl s, rfl⟩ trivial
  have hv1 := own_law i0
  refine ⟨n, _, h1, h2, h3, hpost _ _ _ _ _ _ ⟨Cond.after_iff.mpr rfl, Cond.after_iff.mpr (eq_i res_at (Term.int_eval (1)) (by rw [hv1]) rfl)⟩ ⟨hq.1, hq.2.1, (hq.2.2.sift fun y hy => nomatch hy).mono (by decide) (by decide)⟩⟩
theorem main_1_1 : Claimed_1_1 := comes_1 fun _ _ _ _ _ _ h hF => ⟨h.1, hF⟩
theorem main_1_2 : Claimed_1_2 := comes_1 fun _ _ _ _ _ _ h hF => ⟨h.2, hF⟩
end Jvm.Pilot.@@N@@
namespace Jvm.Pilot.@@N@@
open Jvm Jvm.ClassFile Sem Op Lib Jvm.Free Jvm.Stand Jvm.Pilot.@@N@@.Jvm.D
/-! MADE BY PROGRAM (witnessworld.py) out of the Statement's table words and the real class files: 9 classes; the members and pool entries that the words name. The judged class is class 1, her method 2. -/
namespace start1
open Jvm.ClassFile
def u (s : String) : CpInfo := .utf8 (stringToUtf16 s)
/-- a pool by its gaps: so many unusable entries, then the entry; so many at the end -/
def gap : Nat → List CpInfo → List CpInfo
  | 0, r => r
  | n + 1, r => .unusable :: gap n r
def poolList (es : List (Nat × CpInfo)) (last : Nat) : List CpInfo := es.foldr (fun e r => gap e.1 (e.2 :: r)) (gap last [])
def pool (es : List (Nat × CpInfo)) (last : Nat) : Array CpInfo := ⟨poolList es last⟩
def fileOf (pool : Array CpInfo) (this : Nat) (attrs : Array Attribute := #[]) (ms : Array MethodInfo := #[]) (fl : Nat := 33) (sup : Nat := 0) (ifs : Array Nat := #[]) (fds : Array FieldInfo := #[]) : ClassFile where
  minorVersion := 0
  majorVersion := 65
  constantPool := pool
  accessFlags := fl
  thisClass := this
  superClass := sup
  interfaces := ifs
  fields := fds
  methods := ms
  attributes := attrs
def plain (name : String) (sup : Option ClassId) : Class where
  name := name
  kind := .ordinary
  loader := none
  accessFlags := 33
  super := sup
  interfaces := #[]
  cf := none
  fields := #[]
  methods := #[]
  instanceTypes := #[]
  staticTypes := #[]
  resolved := #[]
  callSites := []
  init := .initialized
  statics := none
  mirror := none

def pool0 : Array CpInfo := pool [(5, u "<init>"), (0, u "()V"), (1, .class_ 10), (1, u "java/lang/Object")] 113

def k0m0 : Method := { name := "<init>", desc := "()V", sig := { parameters := [], returnType := none }, accessFlags := 1, code := none }
/-- java/lang/Object -/
def k0 : Class := { plain "java/lang/Object" none with
  accessFlags := 33
  interfaces := #[]
  cf := some (fileOf pool0 8 #[] #[{ accessFlags := 1, nameIndex := 5, descriptorIndex := 6, attributes := #[] }] 33 0 #[] #[])
  fields := #[]
  methods := #[k0m0]
  instanceTypes := #[]
  staticTypes := #[]
  resolved := Array.replicate 124 none
  statics := none }

def pool1 : Array CpInfo := pool [(2, .class_ 4), (1, u "java/lang/Object"), (0, u "<init>"), (0, u "()V"), (0, .integer 55296), (0, .integer 63743), (0, .integer 64976), (0, .integer 65007), (0, .integer 65534), (0, .integer 65535), (0, .integer 983039), (0, .methodref 15 16), (0, .class_ 17), (0, .nameAndType 18 19), (0, u "com/example/emendix/emendix/XmlCharactersIsNameStartCharPinLaw"), (0, u "excluded"), (0, u "(I)Z"), (0, .methodref 21 22), (0, .class_ 23), (0, .nameAndType 24 19), (0, u "com/example/emendix/emendix/XmlCharacters"), (0, u "isNameStartChar"), (3, u "law")] 2

def k1m0 : Method := { name := "<init>", desc := "()V", sig := { parameters := [], returnType := none }, accessFlags := 2, code := none }
def k1c1 : Code := { maxStack := 2, maxLocals := 1, code := method_2_code, exceptionTable := #[], attributes := #[] }
def k1m1 : Method := { name := "excluded", desc := "(I)Z", sig := { parameters := [.int], returnType := some .boolean }, accessFlags := 10, code := some k1c1 }
def k1c2 : Code := { maxStack := 2, maxLocals := 2, code := code, exceptionTable := #[], attributes := #[] }
def k1m2 : Method := { name := "law", desc := "(I)Z", sig := { parameters := [.int], returnType := some .boolean }, accessFlags := 9, code := some k1c2 }
/-- com/example/emendix/emendix/XmlCharactersIsNameStartCharPinLaw -/
def k1 : Class := { plain "com/example/emendix/emendix/XmlCharactersIsNameStartCharPinLaw" (some 0) with
  accessFlags := 49
  interfaces := #[]
  cf := some (fileOf pool1 15 #[] #[{ accessFlags := 2, nameIndex := 5, descriptorIndex := 6, attributes := #[] }, { accessFlags := 10, nameIndex := 18, descriptorIndex := 19, attributes := #[] }, { accessFlags := 9, nameIndex := 28, descriptorIndex := 19, attributes := #[] }] 49 2 #[] #[])
  fields := #[]
  methods := #[k1m0, k1m1, k1m2]
  instanceTypes := #[]
  staticTypes := #[]
  resolved := Array.replicate 31 none
  statics := none }

def pool2 : Array CpInfo := pool [(2, .class_ 4), (1, u "java/lang/Object"), (0, u "<init>"), (0, u "()V"), (0, .integer 55295), (1, .integer 65533), (0, .integer 65536), (12, .class_ 25), (1, u "com/example/emendix/emendix/XmlCharacters"), (1, u "(I)Z"), (0, .integer 63744), (0, .integer 64975), (0, .integer 65008), (0, .integer 983039), (2, u "isNameStartChar")] 24

def k2m0 : Method := { name := "<init>", desc := "()V", sig := { parameters := [], returnType := none }, accessFlags := 2, code := none }
def k2c1 : Code := { maxStack := 2, maxLocals := 1, code := prog_175_method_5_code, exceptionTable := #[], attributes := #[] }
def k2m1 : Method := { name := "isNameStartChar", desc := "(I)Z", sig := { parameters := [.int], returnType := some .boolean }, accessFlags := 8, code := some k2c1 }
/-- com/example/emendix/emendix/XmlCharacters -/
def k2 : Class := { plain "com/example/emendix/emendix/XmlCharacters" (some 0) with
  accessFlags := 48
  interfaces := #[]
  cf := some (fileOf pool2 23 #[] #[{ accessFlags := 2, nameIndex := 5, descriptorIndex := 6, attributes := #[] }, { accessFlags := 8, nameIndex := 34, descriptorIndex := 27, attributes := #[] }] 48 2 #[] #[])
  fields := #[]
  methods := #[k2m0, k2m1]
  instanceTypes := #[]
  staticTypes := #[]
  resolved := Array.replicate 59 none
  statics := none }

def pool3 : Array CpInfo := pool [(1, u "java/lang/Cloneable"), (0, .class_ 1), (0, u "java/lang/Object"), (0, .class_ 3)] 3

/-- java/lang/Cloneable -/
def k3 : Class := { plain "java/lang/Cloneable" (some 0) with
  accessFlags := 1537
  interfaces := #[]
  cf := some (fileOf pool3 2 #[] #[] 1537 4 #[] #[])
  fields := #[]
  methods := #[]
  instanceTypes := #[]
  staticTypes := #[]
  resolved := Array.replicate 8 none
  statics := none }

def pool4 : Array CpInfo := pool [(1, u "java/io/Serializable"), (0, .class_ 1), (0, u "java/lang/Object"), (0, .class_ 3)] 3

/-- java/io/Serializable -/
def k4 : Class := { plain "java/io/Serializable" (some 0) with
  accessFlags := 1537
  interfaces := #[]
  cf := some (fileOf pool4 2 #[] #[] 1537 4 #[] #[])
  fields := #[]
  methods := #[]
  instanceTypes := #[]
  staticTypes := #[]
  resolved := Array.replicate 8 none
  statics := none }

/-- the primitive byte -/
def k5 : Class := { plain "byte" none with kind := .primitive 'B', accessFlags := 0x411 }
/-- [B -/
def k6 : Class := { plain "[B" (some 0) with kind := .array 5 .byte, interfaces := #[3, 4], accessFlags := 1041 }

/-- the primitive int -/
def k7 : Class := { plain "int" none with kind := .primitive 'I', accessFlags := 0x411 }
/-- [I -/
def k8 : Class := { plain "[I" (some 0) with kind := .array 7 .int, interfaces := #[3, 4], accessFlags := 1041 }

def heap : Heap := #[]
def classes : Array Class := #[k0, k1, k2, k3, k4, k5, k6, k7, k8]
def interned : List (Array UInt16 × Addr) := []
def slotsUsed : Nat := 0
def theMethod : MethodId := ⟨1, 2⟩
def args0 : Array Value := #[.int 5]
def aboutOver (below : List Frame) : State where
  vm := { classes := classes, interned := interned.toArray }
  heap := heap
  slotsUsed := slotsUsed
  threads := #[{ frames := .invoking theMethod args0 :: below }]
def below0 : List Frame := [.native { method := ⟨0, 0⟩, args := #[] }]
def about1 : State := aboutOver below0
def p0 : Program := .bare "" "" ""
def e0 : Env := launch0.env 0 0 0
theorem w_frames : about1.frames = Frame.invoking theMethod args0 :: below0 := rfl
set_option maxRecDepth 65536 in
theorem w_args : argsFit about1.vm theMethod args0 = true := by decide +kernel
set_option maxRecDepth 65536 in
theorem w_heap : heapFits about1 = true := by decide +kernel
set_option maxRecDepth 65536 in
theorem w_runnable : about1.curStatus? = some .runnable := by decide +kernel
set_option maxRecDepth 65536 in
theorem w_alone : about1.alone = true := by decide +kernel
set_option maxRecDepth 65536 in
theorem w_named : about1.methodNamed? x = some theMethod := by decide +kernel
set_option maxRecDepth 65536 in
theorem w_hears : about1.hears theMethod below0 = true := by decide +kernel
set_option maxRecDepth 65536 in
theorem w_ripe : about1.ripe theMethod args0 below0 = true := by decide +kernel
theorem w_running : about1.status = .running := rfl
set_option maxRecDepth 65536 in
theorem w_room : about1.hasRoom e0.platform room_1 = true :=
  launch0.hasRoom_least _ room_1 (by decide +kernel) (by decide +kernel) (by decide +kernel) (by decide +kernel) (by decide +kernel) (by decide +kernel)
theorem allAtoms_all (ts : List Jvm.Cond) (a : Array Jvm.Value) (st : Jvm.State) : (allAtoms ts).before a st = ts.all (fun c => c.before a st) := by
  induction ts with
  | nil => rfl
  | cons c t ih =>
    show (Jvm.Cond.and c (allAtoms t)).before a st = _
    rw [Jvm.Cond.before_and, ih, List.all_cons]
def words1 : List Jvm.Cond := Jvm.Cond.code x code maxLocals ret :: tables_1
/-- a 'code' word, met by the world's own term for the bytes: nothing is compared byte by byte -/
theorem code_word {y : MethodName} {bytes : ByteArray} {mx : Nat} {rt : Option FieldType} {a : Array Value} {s : State} {m : MethodId} {meth : Method} {c : Code} (h1 : s.methodNamed? y = some m) (h2 : s.vm.method? m = some meth) (h3 : meth.code = some c) (h4 : c.code = bytes)
    (h5 : (c.maxLocals == mx && c.exceptionTable.isEmpty && decide (c.maxStack ≤ mostOperands) && decide (meth.sig.returnType = rt) && !meth.locks && decide (parseMethodDescriptor y.desc = some meth.sig)) = true) : (Jvm.Cond.code y bytes mx rt).before a s = true := by
  simp only [Bool.and_eq_true, beq_iff_eq, Bool.not_eq_true', decide_eq_true_eq] at h5
  obtain ⟨⟨⟨⟨⟨g1, g2⟩, g3⟩, g4⟩, g5⟩, g6⟩ := h5
  simp [Cond.before, Cond.holds, Cond.value, h1, h2, h3, h4, g1, g2, g3, g4, g5, g6]
def isCode : Jvm.Cond → Bool
  | .code _ _ _ _ => true
  | _ => false
theorem all_split {L : List Jvm.Cond} {P : Jvm.Cond → Bool} (h1 : L.all (fun c => isCode c || P c) = true) (h2 : ∀ c ∈ L.filter isCode, P c = true) : L.all P = true := by
  refine List.all_eq_true.mpr fun c hc => ?_
  have h := List.all_eq_true.mp h1 c hc
  rcases Bool.eq_false_or_eq_true (isCode c) with hi | hi
  · exact h2 c (List.mem_filter.mpr ⟨hc, hi⟩)
  · simpa [hi] using h
set_option maxRecDepth 65536 in
theorem w_c0 : (Jvm.Cond.code x code maxLocals ret).before args0 about1 = true := code_word (m := ⟨1, 2⟩) (meth := k1m2) (c := k1c2) (by decide +kernel) rfl rfl rfl (by decide +kernel)
set_option maxRecDepth 65536 in
theorem w_c1 : (Jvm.Cond.code ({ cls := "com/example/emendix/emendix/XmlCharactersIsNameStartCharPinLaw", name := "excluded", desc := "(I)Z" } : Jvm.MethodName) method_2_code (1 : Nat) (Option.some Jvm.ClassFile.FieldType.boolean)).before args0 about1 = true := code_word (m := ⟨1, 1⟩) (meth := k1m1) (c := k1c1) (by decide +kernel) rfl rfl rfl (by decide +kernel)
set_option maxRecDepth 65536 in
theorem w_c2 : (Jvm.Cond.code ({ cls := "com/example/emendix/emendix/XmlCharacters", name := "isNameStartChar", desc := "(I)Z" } : Jvm.MethodName) prog_175_method_5_code (1 : Nat) (Option.some Jvm.ClassFile.FieldType.boolean)).before args0 about1 = true := code_word (m := ⟨2, 1⟩) (meth := k2m1) (c := k2c1) (by decide +kernel) rfl rfl rfl (by decide +kernel)
def codes1 : List Jvm.Cond := [Jvm.Cond.code x code maxLocals ret, Jvm.Cond.code ({ cls := "com/example/emendix/emendix/XmlCharactersIsNameStartCharPinLaw", name := "excluded", desc := "(I)Z" } : Jvm.MethodName) method_2_code (1 : Nat) (Option.some Jvm.ClassFile.FieldType.boolean), Jvm.Cond.code ({ cls := "com/example/emendix/emendix/XmlCharacters", name := "isNameStartChar", desc := "(I)Z" } : Jvm.MethodName) prog_175_method_5_code (1 : Nat) (Option.some Jvm.ClassFile.FieldType.boolean)]
set_option maxRecDepth 65536 in
theorem codes_eq : words1.filter isCode = codes1 := rfl
theorem w_codes : ∀ c ∈ words1.filter isCode, c.before args0 about1 = true := by
  rw [codes_eq]
  intro c hc
  simp only [codes1, List.mem_cons, List.not_mem_nil, or_false] at hc
  rcases hc with rfl | rfl | rfl
  · exact w_c0
  · exact w_c1
  · exact w_c2
set_option maxRecDepth 65536 in
theorem w_t1 : words1.all (fun c => isCode c || c.before args0 about1) = true := by decide +kernel
theorem w_tables : (allAtoms (Jvm.Cond.code x code maxLocals ret :: tables_1)).before args0 about1 = true := by
  rw [allAtoms_all]
  show words1.all (fun c => c.before args0 about1) = true
  refine all_split ?_ w_codes
  rw [w_t1]
set_option maxRecDepth 65536 in
theorem w_case : (Jvm.Cond.and given_1 narrow_1).before args0 about1 = true := by decide +kernel
theorem w_applies : (headSpec (Jvm.Cond.code x code maxLocals ret :: tables_1) room_1).applies x e0.platform about1 = true :=
  (Spec.applies_iff w_frames).mpr ⟨w_running, w_runnable, w_alone, w_named, w_hears, w_ripe, w_room, w_tables⟩
theorem atStart : AtStart classFile x code maxLocals ret World_1 tables_1 room_1 Calls_1 rest_1 Pre_1 launch0 p0 e0 about1 theMethod args0 below0 :=
  ⟨lists_1, trivial, launch0.admits_env _ _ _, launch0.least_env, fairChoices_fair.cas, fairChoices_fair.clock, w_frames, w_args, w_heap, w_applies, trivial, trivial, w_case⟩
end start1
theorem witness_1 : WitnessClaimed_1 := ⟨start1.p0, start1.e0, start1.about1, start1.theMethod, start1.args0, start1.below0, start1.atStart⟩
end Jvm.Pilot.@@N@@
