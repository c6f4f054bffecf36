import JvmDerived
import JvmDerived.Pilot.@@N@@Statement
import JvmDerived.Pilot.@@N@@Code
set_option linter.unusedVariables false
set_option linter.unusedSimpArgs false
@@BLOCK:NumsL.lean.txt@@
namespace Jvm.Pilot.@@N@@
open Jvm Jvm.ClassFile Sem Op Lib Jvm.Free Jvm.Stand Jvm.LawKit Jvm.RoadKit Bundle Jvm.Pilot.@@N@@.Jvm.D
section OwnKit
variable {p : Program} {l : Launch} {e : Env} {R : Room} {s : State} {m : MethodId} {args : Array Value} {below : List Frame} {meth : Method} {c : Code} {T T' : State} {locs : List Loc} {cells slots : Nat} {Z : State} {a0 : Array Value} {h h' : Heap} {cm sm : Nat} {Q : Option Value → Heap → List Loc → Prop} {pc pc' : Nat} {Ls Ls' : Array Slot} {St : List Value}
/-- the walk's goal: from this frame the method comes to its end, and Q holds of what it leaves -/
def Go (p : Program) (e : Env) (below : List Frame) (s : State) (cm sm : Nat) (Q : Option Value → Heap → List Loc → Prop) (T : State) (g : JFrame) : Prop :=
  ∃ s₂ o, Steps p.tables e below (T.setTop g) s₂ ∧ s₂.status = .running ∧ Ended s₂ below o ∧ ∃ v L, o = .returned v ∧ Q v s₂.heap L ∧ FrameEnd s o s₂ L cm sm
theorem Go.st {g g' : JFrame} (q : ∀ t, Steps p.tables e below (T'.setTop g') t → Steps p.tables e below (T.setTop g) t) (k : Go p e below s cm sm Q T' g') : Go p e below s cm sm Q T g := by
  obtain ⟨s₂, o, st, r⟩ := k
  exact ⟨s₂, o, q _ st, r⟩
theorem Go.weak {g : JFrame} {Q' : Option Value → Heap → List Loc → Prop} (k : Go p e below s cm sm Q T g) (q : ∀ v h L, Q v h L → Q' v h L) : Go p e below s cm sm Q' T g := by
  obtain ⟨s₂, o, st, r1, r2, v, L, r3, r4, r5⟩ := k
  exact ⟨s₂, o, st, r1, r2, v, L, r3, q _ _ _ r4, r5⟩
/-- a contract -/
def Con (l : Launch) (Z : State) (y : MethodName) (bytes : ByteArray) (maxL : Nat) (ret : Option FieldType) (rm : Room) (as' : Array Value) (h : Heap) (Q : Option Value → Heap → List Loc → Prop) : Prop :=
  ∀ ws : List Jvm.Cond, MetFree l y (head1 (Jvm.Cond.code y bytes maxL ret :: ws) rm) (fun a U => a = as' ∧ Z.Warmed39 U.vm ∧ U.heap = h) (fun _ _ _ _ _ => True) (fun _ U o U' => ∃ v L, o = .returned v ∧ Q v U'.heap L ∧ FrameEnd U o U' L rm.cells rm.slots)
theorem Con.of {y : MethodName} {bytes : ByteArray} {maxL : Nat} {ret : Option FieldType} {rm : Room} {as' : Array Value} (hpl : plainFor y = true)
    (body : ∀ (p : Program) (e : Env) (s : State) (m : MethodId) (below : List Frame) (meth : Method) (c : Code) (T : State), Stand p l e rm s m as' below meth c T [] 0 0 → p.tables.exec = Jvm.exec → Z.Warmed39 s.vm → c.code = bytes → c.maxLocals = maxL → s.vm.findClass y.cls = some m.cls → meth.name = y.name → meth.sig.returnType = ret → meth.locks = false → T.heap = h → Go p e below s rm.cells rm.slots Q T (entryFrame m as' maxL)) :
    Con l Z y bytes maxL ret rm as' h Q := by
  intro ws
  refine MetFree.of_bodySF hpl hisR ?_
  intro p e s m args below meth c s₁ Bd hml0 hP hK
  obtain ⟨rfl, hZ, hh⟩ := hP
  exact body p e s m below meth c s₁ (Stand.of_body Bd) Bd.exec hZ Bd.bytes hml0 (findClass_of_methodNamed Bd.named) (name_of_methodNamed Bd.named Bd.method).1 Bd.returns Bd.notSynchronized (by rw [← hh, Bd.state]; rfl)
theorem Con.weak {y : MethodName} {bytes : ByteArray} {maxL : Nat} {ret : Option FieldType} {rm : Room} {as' : Array Value} {Q' : Option Value → Heap → List Loc → Prop} (C : Con l Z y bytes maxL ret rm as' h Q) (q : ∀ v h L, Q v h L → Q' v h L) : Con l Z y bytes maxL ret rm as' h Q' := by
  intro ws p e ha hc hk s m args below hf happ hP hK
  obtain ⟨n, o, h1, h2, h3, v, L, r3, r4, r5⟩ := C ws p e ha hc hk s m args below hf happ hP hK
  exact ⟨n, o, h1, h2, h3, v, L, r3, q _ _ _ r4, r5⟩
/-- what a body that writes nothing leaves -/
abbrev QP (v0 : Option Value) (h0 : Heap) (n0 : Nat) : Option Value → Heap → List Loc → Prop := fun v h L => v = v0 ∧ Fr n0 L ∧ h = h0
/-- what a law leaves -/
abbrev QL (v0 : Option Value) (n0 : Nat) : Option Value → Heap → List Loc → Prop := fun v _ L => v = v0 ∧ Fr n0 L
/-- iushr, lushr -/
def jushr (x y : Int32) : Int32 := (x.toUInt32 >>> (y &&& 31).toUInt32).toInt32
def jlushr (x : Int64) (y : Int32) : Int64 := (x.toUInt64 >>> (y &&& 0x3f).toInt64.toUInt64).toInt64
theorem w_iloadN (X : Stand p l e R s m args below meth c T locs cells slots) (hx : p.tables.exec = Jvm.exec) {k : Fin 4} {v : Int32} (hd : decode c.code pc = .ok (.iload_n k, 1)) (hp : pc + 1 = pc') (hl : Ls[k.val]? = some (.val (.int v)))
    (kk : Go p e below s cm sm Q T (mkF m pc' Ls (.int v :: St))) : Go p e below s cm sm Q T (mkF m pc Ls (St)) := by
  subst hp
  exact Go.st (fun t q => XS.iloadN (g := mkF m pc Ls (St)) X.here hx rfl hd hl q) kk
theorem w_iload (X : Stand p l e R s m args below meth c T locs cells slots) (hx : p.tables.exec = Jvm.exec) {k : Nat} {v : Int32} (hd : decode c.code pc = .ok (.iload k, 2)) (hp : pc + 2 = pc') (hl : Ls[k]? = some (.val (.int v)))
    (kk : Go p e below s cm sm Q T (mkF m pc' Ls (.int v :: St))) : Go p e below s cm sm Q T (mkF m pc Ls (St)) := by
  subst hp
  exact Go.st (fun t q => XS.iload (g := mkF m pc Ls (St)) X.here hx rfl hd hl q) kk
theorem w_istoreN (X : Stand p l e R s m args below meth c T locs cells slots) (hx : p.tables.exec = Jvm.exec) {k : Fin 4} {x : Int32} (hd : decode c.code pc = .ok (.istore_n k, 1)) (hp : pc + 1 = pc') (hl : storeLocals Ls k.val (.int x) = some Ls')
    (kk : Go p e below s cm sm Q T (mkF m pc' Ls' (St))) : Go p e below s cm sm Q T (mkF m pc Ls (.int x :: St)) := by
  subst hp
  exact Go.st (fun t q => XS.istoreN (g := mkF m pc Ls (.int x :: St)) X.here hx rfl hd rfl hl q) kk
theorem w_istore (X : Stand p l e R s m args below meth c T locs cells slots) (hx : p.tables.exec = Jvm.exec) {k : Nat} {x : Int32} (hd : decode c.code pc = .ok (.istore k, 2)) (hp : pc + 2 = pc') (hl : storeLocals Ls k (.int x) = some Ls')
    (kk : Go p e below s cm sm Q T (mkF m pc' Ls' (St))) : Go p e below s cm sm Q T (mkF m pc Ls (.int x :: St)) := by
  subst hp
  exact Go.st (fun t q => XS.istore (g := mkF m pc Ls (.int x :: St)) X.here hx rfl hd rfl hl q) kk
theorem w_lloadN (X : Stand p l e R s m args below meth c T locs cells slots) (hx : p.tables.exec = Jvm.exec) {k : Fin 4} {v : Int64} (hd : decode c.code pc = .ok (.lload_n k, 1)) (hp : pc + 1 = pc') (hl : Ls[k.val]? = some (.val (.long v)))
    (kk : Go p e below s cm sm Q T (mkF m pc' Ls (.long v :: St))) : Go p e below s cm sm Q T (mkF m pc Ls (St)) := by
  subst hp
  exact Go.st (fun t q => XS.lloadN (g := mkF m pc Ls (St)) X.here hx rfl hd hl q) kk
theorem w_lload (X : Stand p l e R s m args below meth c T locs cells slots) (hx : p.tables.exec = Jvm.exec) {k : Nat} {v : Int64} (hd : decode c.code pc = .ok (.lload k, 2)) (hp : pc + 2 = pc') (hl : Ls[k]? = some (.val (.long v)))
    (kk : Go p e below s cm sm Q T (mkF m pc' Ls (.long v :: St))) : Go p e below s cm sm Q T (mkF m pc Ls (St)) := by
  subst hp
  exact Go.st (fun t q => XS.lload (g := mkF m pc Ls (St)) X.here hx rfl hd hl q) kk
theorem w_lstoreN (X : Stand p l e R s m args below meth c T locs cells slots) (hx : p.tables.exec = Jvm.exec) {k : Fin 4} {x : Int64} (hd : decode c.code pc = .ok (.lstore_n k, 1)) (hp : pc + 1 = pc') (hl : storeLocals Ls k.val (.long x) = some Ls')
    (kk : Go p e below s cm sm Q T (mkF m pc' Ls' (St))) : Go p e below s cm sm Q T (mkF m pc Ls (.long x :: St)) := by
  subst hp
  exact Go.st (fun t q => XS.lstoreN (g := mkF m pc Ls (.long x :: St)) X.here hx rfl hd rfl hl q) kk
theorem w_lstore (X : Stand p l e R s m args below meth c T locs cells slots) (hx : p.tables.exec = Jvm.exec) {k : Nat} {x : Int64} (hd : decode c.code pc = .ok (.lstore k, 2)) (hp : pc + 2 = pc') (hl : storeLocals Ls k (.long x) = some Ls')
    (kk : Go p e below s cm sm Q T (mkF m pc' Ls' (St))) : Go p e below s cm sm Q T (mkF m pc Ls (.long x :: St)) := by
  subst hp
  exact Go.st (fun t q => XS.lstore (g := mkF m pc Ls (.long x :: St)) X.here hx rfl hd rfl hl q) kk
theorem w_aloadN (X : Stand p l e R s m args below meth c T locs cells slots) (hx : p.tables.exec = Jvm.exec) {k : Fin 4} {v : Value} (hd : decode c.code pc = .ok (.aload_n k, 1)) (hp : pc + 1 = pc') (hl : Ls[k.val]? = some (.val v)) (hv : v.isRef = true)
    (kk : Go p e below s cm sm Q T (mkF m pc' Ls (v :: St))) : Go p e below s cm sm Q T (mkF m pc Ls (St)) := by
  subst hp
  exact Go.st (fun t q => XS.aloadN (g := mkF m pc Ls (St)) X.here hx rfl hd hl hv q) kk
theorem w_aload (X : Stand p l e R s m args below meth c T locs cells slots) (hx : p.tables.exec = Jvm.exec) {k : Nat} {v : Value} (hd : decode c.code pc = .ok (.aload k, 2)) (hp : pc + 2 = pc') (hl : Ls[k]? = some (.val v)) (hv : v.isRef = true)
    (kk : Go p e below s cm sm Q T (mkF m pc' Ls (v :: St))) : Go p e below s cm sm Q T (mkF m pc Ls (St)) := by
  subst hp
  exact Go.st (fun t q => XS.aload (g := mkF m pc Ls (St)) X.here hx rfl hd hl hv q) kk
theorem w_astoreN (X : Stand p l e R s m args below meth c T locs cells slots) (hx : p.tables.exec = Jvm.exec) {k : Fin 4} {x : Value} (hd : decode c.code pc = .ok (.astore_n k, 1)) (hp : pc + 1 = pc') (hv : x.isRef = true) (hl : storeLocals Ls k.val x = some Ls')
    (kk : Go p e below s cm sm Q T (mkF m pc' Ls' (St))) : Go p e below s cm sm Q T (mkF m pc Ls (x :: St)) := by
  subst hp
  exact Go.st (fun t q => XS.astoreN (g := mkF m pc Ls (x :: St)) X.here hx rfl hd rfl hv hl q) kk
theorem w_astore (X : Stand p l e R s m args below meth c T locs cells slots) (hx : p.tables.exec = Jvm.exec) {k : Nat} {x : Value} (hd : decode c.code pc = .ok (.astore k, 2)) (hp : pc + 2 = pc') (hv : x.isRef = true) (hl : storeLocals Ls k x = some Ls')
    (kk : Go p e below s cm sm Q T (mkF m pc' Ls' (St))) : Go p e below s cm sm Q T (mkF m pc Ls (x :: St)) := by
  subst hp
  exact Go.st (fun t q => XS.astore (g := mkF m pc Ls (x :: St)) X.here hx rfl hd rfl hv hl q) kk
theorem w_iconst (X : Stand p l e R s m args below meth c T locs cells slots) (hx : p.tables.exec = Jvm.exec) {i : Int} {v : Int32} (hd : decode c.code pc = .ok (.iconst i, 1)) (hp : pc + 1 = pc') (hv : Int32.ofInt i = v)
    (kk : Go p e below s cm sm Q T (mkF m pc' Ls (.int v :: St))) : Go p e below s cm sm Q T (mkF m pc Ls St) := by
  subst hp hv
  exact Go.st (fun t q => XS.iconst (g := mkF m pc Ls St) X.here hx rfl hd q) kk
theorem w_bipush (X : Stand p l e R s m args below meth c T locs cells slots) (hx : p.tables.exec = Jvm.exec) {i : Int} {v : Int32} (hd : decode c.code pc = .ok (.bipush i, 2)) (hp : pc + 2 = pc') (hv : (Int8.ofInt i).toInt32 = v)
    (kk : Go p e below s cm sm Q T (mkF m pc' Ls (.int v :: St))) : Go p e below s cm sm Q T (mkF m pc Ls St) := by
  subst hp hv
  exact Go.st (fun t q => XS.bipush (g := mkF m pc Ls St) X.here hx rfl hd q) kk
theorem w_sipush (X : Stand p l e R s m args below meth c T locs cells slots) (hx : p.tables.exec = Jvm.exec) {i : Int} {v : Int32} (hd : decode c.code pc = .ok (.sipush i, 3)) (hp : pc + 3 = pc') (hv : (Int16.ofInt i).toInt32 = v)
    (kk : Go p e below s cm sm Q T (mkF m pc' Ls (.int v :: St))) : Go p e below s cm sm Q T (mkF m pc Ls St) := by
  subst hp hv
  exact Go.st (fun t q => XS.sipush (g := mkF m pc Ls St) X.here hx rfl hd q) kk
theorem w_lconst (X : Stand p l e R s m args below meth c T locs cells slots) (hx : p.tables.exec = Jvm.exec) {i : Fin 2} {v : Int64} (hd : decode c.code pc = .ok (.lconst i, 1)) (hp : pc + 1 = pc') (hv : Int64.ofNat i = v)
    (kk : Go p e below s cm sm Q T (mkF m pc' Ls (.long v :: St))) : Go p e below s cm sm Q T (mkF m pc Ls St) := by
  subst hp hv
  exact Go.st (fun t q => XS.lconst (g := mkF m pc Ls St) X.here hx rfl hd q) kk
theorem w_aconstNull (X : Stand p l e R s m args below meth c T locs cells slots) (hx : p.tables.exec = Jvm.exec)  (hd : decode c.code pc = .ok (.aconst_null, 1)) (hp : pc + 1 = pc')
    (kk : Go p e below s cm sm Q T (mkF m pc' Ls (.null :: St))) : Go p e below s cm sm Q T (mkF m pc Ls (St)) := by
  subst hp
  exact Go.st (fun t q => XS.aconstNull (g := mkF m pc Ls (St)) X.here hx rfl hd q) kk
theorem w_iadd (X : Stand p l e R s m args below meth c T locs cells slots) (hx : p.tables.exec = Jvm.exec) {x y : Int32} (hd : decode c.code pc = .ok (.iadd, 1)) (hp : pc + 1 = pc')
    (kk : Go p e below s cm sm Q T (mkF m pc' Ls (.int (x + y) :: St))) : Go p e below s cm sm Q T (mkF m pc Ls (.int y :: .int x :: St)) := by
  subst hp
  exact Go.st (fun t q => XS.iadd (g := mkF m pc Ls (.int y :: .int x :: St)) X.here hx rfl hd rfl q) kk
theorem w_ladd (X : Stand p l e R s m args below meth c T locs cells slots) (hx : p.tables.exec = Jvm.exec) {x y : Int64} (hd : decode c.code pc = .ok (.ladd, 1)) (hp : pc + 1 = pc')
    (kk : Go p e below s cm sm Q T (mkF m pc' Ls (.long (x + y) :: St))) : Go p e below s cm sm Q T (mkF m pc Ls (.long y :: .long x :: St)) := by
  subst hp
  exact Go.st (fun t q => XS.ladd (g := mkF m pc Ls (.long y :: .long x :: St)) X.here hx rfl hd rfl q) kk
theorem w_isub (X : Stand p l e R s m args below meth c T locs cells slots) (hx : p.tables.exec = Jvm.exec) {x y : Int32} (hd : decode c.code pc = .ok (.isub, 1)) (hp : pc + 1 = pc')
    (kk : Go p e below s cm sm Q T (mkF m pc' Ls (.int (x - y) :: St))) : Go p e below s cm sm Q T (mkF m pc Ls (.int y :: .int x :: St)) := by
  subst hp
  exact Go.st (fun t q => XS.isub (g := mkF m pc Ls (.int y :: .int x :: St)) X.here hx rfl hd rfl q) kk
theorem w_lsub (X : Stand p l e R s m args below meth c T locs cells slots) (hx : p.tables.exec = Jvm.exec) {x y : Int64} (hd : decode c.code pc = .ok (.lsub, 1)) (hp : pc + 1 = pc')
    (kk : Go p e below s cm sm Q T (mkF m pc' Ls (.long (x - y) :: St))) : Go p e below s cm sm Q T (mkF m pc Ls (.long y :: .long x :: St)) := by
  subst hp
  exact Go.st (fun t q => XS.lsub (g := mkF m pc Ls (.long y :: .long x :: St)) X.here hx rfl hd rfl q) kk
theorem w_imul (X : Stand p l e R s m args below meth c T locs cells slots) (hx : p.tables.exec = Jvm.exec) {x y : Int32} (hd : decode c.code pc = .ok (.imul, 1)) (hp : pc + 1 = pc')
    (kk : Go p e below s cm sm Q T (mkF m pc' Ls (.int (x * y) :: St))) : Go p e below s cm sm Q T (mkF m pc Ls (.int y :: .int x :: St)) := by
  subst hp
  exact Go.st (fun t q => XS.imul (g := mkF m pc Ls (.int y :: .int x :: St)) X.here hx rfl hd rfl q) kk
theorem w_lmul (X : Stand p l e R s m args below meth c T locs cells slots) (hx : p.tables.exec = Jvm.exec) {x y : Int64} (hd : decode c.code pc = .ok (.lmul, 1)) (hp : pc + 1 = pc')
    (kk : Go p e below s cm sm Q T (mkF m pc' Ls (.long (x * y) :: St))) : Go p e below s cm sm Q T (mkF m pc Ls (.long y :: .long x :: St)) := by
  subst hp
  exact Go.st (fun t q => XS.lmul (g := mkF m pc Ls (.long y :: .long x :: St)) X.here hx rfl hd rfl q) kk
theorem w_iand (X : Stand p l e R s m args below meth c T locs cells slots) (hx : p.tables.exec = Jvm.exec) {x y : Int32} (hd : decode c.code pc = .ok (.iand, 1)) (hp : pc + 1 = pc')
    (kk : Go p e below s cm sm Q T (mkF m pc' Ls (.int (x &&& y) :: St))) : Go p e below s cm sm Q T (mkF m pc Ls (.int y :: .int x :: St)) := by
  subst hp
  exact Go.st (fun t q => XS.iand (g := mkF m pc Ls (.int y :: .int x :: St)) X.here hx rfl hd rfl q) kk
theorem w_land (X : Stand p l e R s m args below meth c T locs cells slots) (hx : p.tables.exec = Jvm.exec) {x y : Int64} (hd : decode c.code pc = .ok (.land, 1)) (hp : pc + 1 = pc')
    (kk : Go p e below s cm sm Q T (mkF m pc' Ls (.long (x &&& y) :: St))) : Go p e below s cm sm Q T (mkF m pc Ls (.long y :: .long x :: St)) := by
  subst hp
  exact Go.st (fun t q => XS.land (g := mkF m pc Ls (.long y :: .long x :: St)) X.here hx rfl hd rfl q) kk
theorem w_ior (X : Stand p l e R s m args below meth c T locs cells slots) (hx : p.tables.exec = Jvm.exec) {x y : Int32} (hd : decode c.code pc = .ok (.ior, 1)) (hp : pc + 1 = pc')
    (kk : Go p e below s cm sm Q T (mkF m pc' Ls (.int (x ||| y) :: St))) : Go p e below s cm sm Q T (mkF m pc Ls (.int y :: .int x :: St)) := by
  subst hp
  exact Go.st (fun t q => XS.ior (g := mkF m pc Ls (.int y :: .int x :: St)) X.here hx rfl hd rfl q) kk
theorem w_lor (X : Stand p l e R s m args below meth c T locs cells slots) (hx : p.tables.exec = Jvm.exec) {x y : Int64} (hd : decode c.code pc = .ok (.lor, 1)) (hp : pc + 1 = pc')
    (kk : Go p e below s cm sm Q T (mkF m pc' Ls (.long (x ||| y) :: St))) : Go p e below s cm sm Q T (mkF m pc Ls (.long y :: .long x :: St)) := by
  subst hp
  exact Go.st (fun t q => XS.lor (g := mkF m pc Ls (.long y :: .long x :: St)) X.here hx rfl hd rfl q) kk
theorem w_ixor (X : Stand p l e R s m args below meth c T locs cells slots) (hx : p.tables.exec = Jvm.exec) {x y : Int32} (hd : decode c.code pc = .ok (.ixor, 1)) (hp : pc + 1 = pc')
    (kk : Go p e below s cm sm Q T (mkF m pc' Ls (.int (x ^^^ y) :: St))) : Go p e below s cm sm Q T (mkF m pc Ls (.int y :: .int x :: St)) := by
  subst hp
  exact Go.st (fun t q => XS.ixor (g := mkF m pc Ls (.int y :: .int x :: St)) X.here hx rfl hd rfl q) kk
theorem w_lxor (X : Stand p l e R s m args below meth c T locs cells slots) (hx : p.tables.exec = Jvm.exec) {x y : Int64} (hd : decode c.code pc = .ok (.lxor, 1)) (hp : pc + 1 = pc')
    (kk : Go p e below s cm sm Q T (mkF m pc' Ls (.long (x ^^^ y) :: St))) : Go p e below s cm sm Q T (mkF m pc Ls (.long y :: .long x :: St)) := by
  subst hp
  exact Go.st (fun t q => XS.lxor (g := mkF m pc Ls (.long y :: .long x :: St)) X.here hx rfl hd rfl q) kk
theorem w_idiv (X : Stand p l e R s m args below meth c T locs cells slots) (hx : p.tables.exec = Jvm.exec) {x y : Int32} (hd : decode c.code pc = .ok (.idiv, 1)) (hp : pc + 1 = pc') (hy : y ≠ 0)
    (kk : Go p e below s cm sm Q T (mkF m pc' Ls (.int (x / y) :: St))) : Go p e below s cm sm Q T (mkF m pc Ls (.int y :: .int x :: St)) := by
  subst hp
  exact Go.st (fun t q => XS.idiv (g := mkF m pc Ls (.int y :: .int x :: St)) X.here hx rfl hd rfl hy q) kk
theorem own_irem (x y : Int32) : x - x / y * y = x % y := by
  apply Int32.toInt_inj.mp
  have h : x.toInt - x.toInt.tdiv y.toInt * y.toInt = x.toInt.tmod y.toInt := by
    have := Int.mul_tdiv_add_tmod x.toInt y.toInt
    rw [Int.mul_comm]; omega
  have hr := (x % y).toInt_lt
  have hl := (x % y).le_toInt
  rw [Int32.toInt_mod] at hr hl
  rw [Int32.toInt_sub, Int32.toInt_mul, Int32.toInt_div, Int32.toInt_mod, Int.bmod_mul_bmod, Int.sub_bmod_bmod, h, Jvm.Kit.bmod32 (by omega) (by omega)]
theorem w_irem (X : Stand p l e R s m args below meth c T locs cells slots) (hx : p.tables.exec = Jvm.exec) {x y : Int32} (hd : decode c.code pc = .ok (.irem, 1)) (hp : pc + 1 = pc') (hy : y ≠ 0)
    (kk : Go p e below s cm sm Q T (mkF m pc' Ls (.int (x % y) :: St))) : Go p e below s cm sm Q T (mkF m pc Ls (.int y :: .int x :: St)) := by
  subst hp
  rw [← own_irem] at kk
  exact Go.st (fun t q => XS.irem (g := mkF m pc Ls (.int y :: .int x :: St)) X.here hx rfl hd rfl hy q) kk
theorem w_ldiv (X : Stand p l e R s m args below meth c T locs cells slots) (hx : p.tables.exec = Jvm.exec) {x y : Int64} (hd : decode c.code pc = .ok (.ldiv, 1)) (hp : pc + 1 = pc') (hy : y ≠ 0)
    (kk : Go p e below s cm sm Q T (mkF m pc' Ls (.long (x / y) :: St))) : Go p e below s cm sm Q T (mkF m pc Ls (.long y :: .long x :: St)) := by
  subst hp
  exact Go.st (fun t q => XS.ldiv (g := mkF m pc Ls (.long y :: .long x :: St)) X.here hx rfl hd rfl hy q) kk
theorem own_lrem (x y : Int64) : x - x / y * y = x % y := by
  apply Int64.toInt_inj.mp
  have h : x.toInt - x.toInt.tdiv y.toInt * y.toInt = x.toInt.tmod y.toInt := by
    have := Int.mul_tdiv_add_tmod x.toInt y.toInt
    rw [Int.mul_comm]; omega
  have hr := (x % y).toInt_lt
  have hl := (x % y).le_toInt
  rw [Int64.toInt_mod] at hr hl
  rw [Int64.toInt_sub, Int64.toInt_mul, Int64.toInt_div, Int64.toInt_mod, Int.bmod_mul_bmod, Int.sub_bmod_bmod, h, Jvm.Kit.bmod64 (by omega) (by omega)]
theorem w_lrem (X : Stand p l e R s m args below meth c T locs cells slots) (hx : p.tables.exec = Jvm.exec) {x y : Int64} (hd : decode c.code pc = .ok (.lrem, 1)) (hp : pc + 1 = pc') (hy : y ≠ 0)
    (kk : Go p e below s cm sm Q T (mkF m pc' Ls (.long (x % y) :: St))) : Go p e below s cm sm Q T (mkF m pc Ls (.long y :: .long x :: St)) := by
  subst hp
  rw [← own_lrem] at kk
  exact Go.st (fun t q => XS.lrem (g := mkF m pc Ls (.long y :: .long x :: St)) X.here hx rfl hd rfl hy q) kk
theorem w_ineg (X : Stand p l e R s m args below meth c T locs cells slots) (hx : p.tables.exec = Jvm.exec) {x : Int32} (hd : decode c.code pc = .ok (.ineg, 1)) (hp : pc + 1 = pc')
    (kk : Go p e below s cm sm Q T (mkF m pc' Ls (.int (-x) :: St))) : Go p e below s cm sm Q T (mkF m pc Ls (.int x :: St)) := by
  subst hp
  exact Go.st (fun t q => XS.ineg (g := mkF m pc Ls (.int x :: St)) X.here hx rfl hd rfl q) kk
theorem w_lneg (X : Stand p l e R s m args below meth c T locs cells slots) (hx : p.tables.exec = Jvm.exec) {x : Int64} (hd : decode c.code pc = .ok (.lneg, 1)) (hp : pc + 1 = pc')
    (kk : Go p e below s cm sm Q T (mkF m pc' Ls (.long (-x) :: St))) : Go p e below s cm sm Q T (mkF m pc Ls (.long x :: St)) := by
  subst hp
  exact Go.st (fun t q => XS.lneg (g := mkF m pc Ls (.long x :: St)) X.here hx rfl hd rfl q) kk
theorem w_i2l (X : Stand p l e R s m args below meth c T locs cells slots) (hx : p.tables.exec = Jvm.exec) {x : Int32} (hd : decode c.code pc = .ok (.i2l, 1)) (hp : pc + 1 = pc')
    (kk : Go p e below s cm sm Q T (mkF m pc' Ls (.long x.toInt64 :: St))) : Go p e below s cm sm Q T (mkF m pc Ls (.int x :: St)) := by
  subst hp
  exact Go.st (fun t q => XS.i2l (g := mkF m pc Ls (.int x :: St)) X.here hx rfl hd rfl q) kk
theorem w_l2i (X : Stand p l e R s m args below meth c T locs cells slots) (hx : p.tables.exec = Jvm.exec) {x : Int64} (hd : decode c.code pc = .ok (.l2i, 1)) (hp : pc + 1 = pc')
    (kk : Go p e below s cm sm Q T (mkF m pc' Ls (.int x.toInt32 :: St))) : Go p e below s cm sm Q T (mkF m pc Ls (.long x :: St)) := by
  subst hp
  exact Go.st (fun t q => XS.l2i (g := mkF m pc Ls (.long x :: St)) X.here hx rfl hd rfl q) kk
theorem w_i2b (X : Stand p l e R s m args below meth c T locs cells slots) (hx : p.tables.exec = Jvm.exec) {x : Int32} (hd : decode c.code pc = .ok (.i2b, 1)) (hp : pc + 1 = pc')
    (kk : Go p e below s cm sm Q T (mkF m pc' Ls (.int x.toInt8.toInt32 :: St))) : Go p e below s cm sm Q T (mkF m pc Ls (.int x :: St)) := by
  subst hp
  exact Go.st (fun t q => XS.i2b (g := mkF m pc Ls (.int x :: St)) X.here hx rfl hd rfl q) kk
theorem w_i2c (X : Stand p l e R s m args below meth c T locs cells slots) (hx : p.tables.exec = Jvm.exec) {x : Int32} (hd : decode c.code pc = .ok (.i2c, 1)) (hp : pc + 1 = pc')
    (kk : Go p e below s cm sm Q T (mkF m pc' Ls (.int x.toUInt32.toUInt16.toUInt32.toInt32 :: St))) : Go p e below s cm sm Q T (mkF m pc Ls (.int x :: St)) := by
  subst hp
  exact Go.st (fun t q => XS.i2c (g := mkF m pc Ls (.int x :: St)) X.here hx rfl hd rfl q) kk
theorem w_ishl (X : Stand p l e R s m args below meth c T locs cells slots) (hx : p.tables.exec = Jvm.exec) {x y : Int32} (hd : decode c.code pc = .ok (.ishl, 1)) (hp : pc + 1 = pc')
    (kk : Go p e below s cm sm Q T (mkF m pc' Ls (.int (x <<< (y &&& 31)) :: St))) : Go p e below s cm sm Q T (mkF m pc Ls (.int y :: .int x :: St)) := by
  subst hp
  exact Go.st (fun t q => XS.ishl (g := mkF m pc Ls (.int y :: .int x :: St)) X.here hx rfl hd rfl q) kk
theorem w_ishr (X : Stand p l e R s m args below meth c T locs cells slots) (hx : p.tables.exec = Jvm.exec) {x y : Int32} (hd : decode c.code pc = .ok (.ishr, 1)) (hp : pc + 1 = pc')
    (kk : Go p e below s cm sm Q T (mkF m pc' Ls (.int (x >>> (y &&& 31)) :: St))) : Go p e below s cm sm Q T (mkF m pc Ls (.int y :: .int x :: St)) := by
  subst hp
  exact Go.st (fun t q => XS.ishr (g := mkF m pc Ls (.int y :: .int x :: St)) X.here hx rfl hd rfl q) kk
theorem w_iushr (X : Stand p l e R s m args below meth c T locs cells slots) (hx : p.tables.exec = Jvm.exec) {x y : Int32} (hd : decode c.code pc = .ok (.iushr, 1)) (hp : pc + 1 = pc')
    (kk : Go p e below s cm sm Q T (mkF m pc' Ls (.int (jushr x y) :: St))) : Go p e below s cm sm Q T (mkF m pc Ls (.int y :: .int x :: St)) := by
  subst hp
  exact Go.st (fun t q => XS.iushr (g := mkF m pc Ls (.int y :: .int x :: St)) X.here hx rfl hd rfl q) kk
theorem w_lshl (X : Stand p l e R s m args below meth c T locs cells slots) (hx : p.tables.exec = Jvm.exec) {x : Int64} {y : Int32} (hd : decode c.code pc = .ok (.lshl, 1)) (hp : pc + 1 = pc')
    (kk : Go p e below s cm sm Q T (mkF m pc' Ls (.long (x <<< (y &&& 0x3f).toInt64) :: St))) : Go p e below s cm sm Q T (mkF m pc Ls (.int y :: .long x :: St)) := by
  subst hp
  exact Go.st (fun t q => XS.lshl (g := mkF m pc Ls (.int y :: .long x :: St)) X.here hx rfl hd rfl q) kk
theorem w_lshr (X : Stand p l e R s m args below meth c T locs cells slots) (hx : p.tables.exec = Jvm.exec) {x : Int64} {y : Int32} (hd : decode c.code pc = .ok (.lshr, 1)) (hp : pc + 1 = pc')
    (kk : Go p e below s cm sm Q T (mkF m pc' Ls (.long (x >>> (y &&& 0x3f).toInt64) :: St))) : Go p e below s cm sm Q T (mkF m pc Ls (.int y :: .long x :: St)) := by
  subst hp
  exact Go.st (fun t q => XS.lshr (g := mkF m pc Ls (.int y :: .long x :: St)) X.here hx rfl hd rfl q) kk
theorem w_lushr (X : Stand p l e R s m args below meth c T locs cells slots) (hx : p.tables.exec = Jvm.exec) {x : Int64} {y : Int32} (hd : decode c.code pc = .ok (.lushr, 1)) (hp : pc + 1 = pc')
    (kk : Go p e below s cm sm Q T (mkF m pc' Ls (.long (jlushr x y) :: St))) : Go p e below s cm sm Q T (mkF m pc Ls (.int y :: .long x :: St)) := by
  subst hp
  exact Go.st (fun t q => XS.lushr (g := mkF m pc Ls (.int y :: .long x :: St)) X.here hx rfl hd rfl q) kk
theorem w_lcmp (X : Stand p l e R s m args below meth c T locs cells slots) (hx : p.tables.exec = Jvm.exec) {x y : Int64} (hd : decode c.code pc = .ok (.lcmp, 1)) (hp : pc + 1 = pc')
    (kk : Go p e below s cm sm Q T (mkF m pc' Ls (.int (lcmpW x y) :: St))) : Go p e below s cm sm Q T (mkF m pc Ls (.long y :: .long x :: St)) := by
  subst hp
  exact Go.st (fun t q => XS.lcmp (g := mkF m pc Ls (.long y :: .long x :: St)) X.here hx rfl hd rfl q) kk
theorem w_dup (X : Stand p l e R s m args below meth c T locs cells slots) (hx : p.tables.exec = Jvm.exec) {x : Value} (hd : decode c.code pc = .ok (.dup, 1)) (hp : pc + 1 = pc') (hv : x.category = 1)
    (kk : Go p e below s cm sm Q T (mkF m pc' Ls (x :: x :: St))) : Go p e below s cm sm Q T (mkF m pc Ls (x :: St)) := by
  subst hp
  exact Go.st (fun t q => XS.dup (g := mkF m pc Ls (x :: St)) X.here hx rfl hd rfl hv q) kk
theorem w_pop (X : Stand p l e R s m args below meth c T locs cells slots) (hx : p.tables.exec = Jvm.exec) {x : Value} (hd : decode c.code pc = .ok (.pop, 1)) (hp : pc + 1 = pc') (hv : x.category = 1)
    (kk : Go p e below s cm sm Q T (mkF m pc' Ls (St))) : Go p e below s cm sm Q T (mkF m pc Ls (x :: St)) := by
  subst hp
  exact Go.st (fun t q => XS.pop (g := mkF m pc Ls (x :: St)) X.here hx rfl hd rfl hv q) kk
theorem w_dupX1 (X : Stand p l e R s m args below meth c T locs cells slots) (hx : p.tables.exec = Jvm.exec) {x y : Value} (hd : decode c.code pc = .ok (.dup_x1, 1)) (hp : pc + 1 = pc') (hv : x.category = 1) (hv' : y.category = 1)
    (kk : Go p e below s cm sm Q T (mkF m pc' Ls (x :: y :: x :: St))) : Go p e below s cm sm Q T (mkF m pc Ls (x :: y :: St)) := by
  subst hp
  exact Go.st (fun t q => XS.dupX1 (g := mkF m pc Ls (x :: y :: St)) X.here hx rfl hd rfl hv hv' q) kk
theorem w_iinc (X : Stand p l e R s m args below meth c T locs cells slots) (hx : p.tables.exec = Jvm.exec) {k : Nat} {cst : Int} {x w : Int32} (hd : decode c.code pc = .ok (.iinc k cst, 3)) (hp : pc + 3 = pc') (hl : Ls[k]? = some (.val (.int x))) (hv : Int32.ofInt cst = w) (hl' : storeLocals Ls k (.int (x + w)) = some Ls')
    (kk : Go p e below s cm sm Q T (mkF m pc' Ls' St)) : Go p e below s cm sm Q T (mkF m pc Ls St) := by
  subst hp hv
  exact Go.st (fun t q => XS.iinc (g := mkF m pc Ls St) X.here hx rfl hd hl hl' q) kk
theorem w_goto (X : Stand p l e R s m args below meth c T locs cells slots) (hx : p.tables.exec = Jvm.exec) {o : Int} (hd : decode c.code pc = .ok (.goto o, 3)) (ho : 0 ≤ (pc : Int) + o) (hp : ((pc : Int) + o).toNat = pc')
    (kk : Go p e below s cm sm Q T (mkF m pc' Ls St)) : Go p e below s cm sm Q T (mkF m pc Ls St) :=
  Go.st (fun t q => XS.goto (g := mkF m pc Ls St) X.here hx rfl (pc0 := pc) (pc' := pc') rfl hd ho hp q) kk
theorem w_icmp0 (X : Stand p l e R s m args below meth c T locs cells slots) (hx : p.tables.exec = Jvm.exec) {cd : ClassFile.Cond} {x y : Int32} {o : Int} {pt pf : Nat} (hd : decode c.code pc = .ok (.if_icmp cd o, 3)) (hf : pc + 3 = pf) (ho : 0 ≤ (pc : Int) + o) (hp : ((pc : Int) + o).toNat = pt)
    (kT : if_icmp.holds cd x y = true → Go p e below s cm sm Q T (mkF m pt Ls St)) (kF : if_icmp.holds cd x y = false → Go p e below s cm sm Q T (mkF m pf Ls St)) : Go p e below s cm sm Q T (mkF m pc Ls (.int y :: .int x :: St)) := by
  subst hf
  cases hc : if_icmp.holds cd x y with
  | true => exact Go.st (fun t q => XS.icmpYes (g := mkF m pc Ls (.int y :: .int x :: St)) X.here hx rfl (pc0 := pc) (pc' := pt) rfl hd rfl hc ho hp q) (kT hc)
  | false => exact Go.st (fun t q => XS.icmpNo (g := mkF m pc Ls (.int y :: .int x :: St)) X.here hx rfl hd rfl hc q) (kF hc)
theorem w_if0 (X : Stand p l e R s m args below meth c T locs cells slots) (hx : p.tables.exec = Jvm.exec) {cd : ClassFile.Cond} {x : Int32} {o : Int} {pt pf : Nat} (hd : decode c.code pc = .ok (.ifCond cd o, 3)) (hf : pc + 3 = pf) (ho : 0 ≤ (pc : Int) + o) (hp : ((pc : Int) + o).toNat = pt)
    (kT : if_icmp.holds cd x 0 = true → Go p e below s cm sm Q T (mkF m pt Ls St)) (kF : if_icmp.holds cd x 0 = false → Go p e below s cm sm Q T (mkF m pf Ls St)) : Go p e below s cm sm Q T (mkF m pc Ls (.int x :: St)) := by
  subst hf
  cases hc : if_icmp.holds cd x 0 with
  | true => exact Go.st (fun t q => XS.ifYes (g := mkF m pc Ls (.int x :: St)) X.here hx rfl (pc0 := pc) (pc' := pt) rfl hd rfl ((if0 _ _).trans hc) ho hp q) (kT hc)
  | false => exact Go.st (fun t q => XS.ifNo (g := mkF m pc Ls (.int x :: St)) X.here hx rfl hd rfl ((if0 _ _).trans hc) q) (kF hc)
theorem h_lt {x y : Int32} : (if_icmp.holds .lt x y = true → x < y) ∧ (if_icmp.holds .lt x y = false → ¬ x < y) := ⟨fun h => Decidable.byContradiction fun q => by simp [(flt q).1] at h, fun h q => by simp [(tlt q).1] at h⟩
theorem h_ge {x y : Int32} : (if_icmp.holds .ge x y = true → ¬ x < y) ∧ (if_icmp.holds .ge x y = false → x < y) := ⟨fun h q => by simp [(tlt q).2.1] at h, fun h => Decidable.byContradiction fun q => by simp [(flt q).2.1] at h⟩
theorem h_gt {x y : Int32} : (if_icmp.holds .gt x y = true → y < x) ∧ (if_icmp.holds .gt x y = false → ¬ y < x) := ⟨fun h => Decidable.byContradiction fun q => by simp [(flt q).2.2.1] at h, fun h q => by simp [(tlt q).2.2.1] at h⟩
theorem h_le {x y : Int32} : (if_icmp.holds .le x y = true → ¬ y < x) ∧ (if_icmp.holds .le x y = false → y < x) := ⟨fun h q => by simp [(tlt q).2.2.2] at h, fun h => Decidable.byContradiction fun q => by simp [(flt q).2.2.2] at h⟩
theorem h_eq {x y : Int32} : (if_icmp.holds .eq x y = true → x = y) ∧ (if_icmp.holds .eq x y = false → ¬ x = y) := ⟨fun h => Decidable.byContradiction fun q => by simp [(feq q).1] at h, fun h q => by simp [(teq q).1] at h⟩
theorem h_ne {x y : Int32} : (if_icmp.holds .ne x y = true → ¬ x = y) ∧ (if_icmp.holds .ne x y = false → x = y) := ⟨fun h q => by simp [(teq q).2] at h, fun h => Decidable.byContradiction fun q => by simp [(feq q).2] at h⟩
theorem w_icmp_lt (X : Stand p l e R s m args below meth c T locs cells slots) (hx : p.tables.exec = Jvm.exec) {x y : Int32} {o : Int} {pt pf : Nat} (hd : decode c.code pc = .ok (.if_icmp .lt o, 3)) (hf : pc + 3 = pf) (ho : 0 ≤ (pc : Int) + o) (hp : ((pc : Int) + o).toNat = pt)
    (kT : x < y → Go p e below s cm sm Q T (mkF m pt Ls St)) (kF : ¬ (x < y) → Go p e below s cm sm Q T (mkF m pf Ls St)) : Go p e below s cm sm Q T (mkF m pc Ls (.int y :: .int x :: St)) :=
  w_icmp0 X hx hd hf ho hp (fun h => kT (h_lt.1 h)) (fun h => kF (h_lt.2 h))
theorem w_if_lt (X : Stand p l e R s m args below meth c T locs cells slots) (hx : p.tables.exec = Jvm.exec) {x : Int32} {o : Int} {pt pf : Nat} (hd : decode c.code pc = .ok (.ifCond .lt o, 3)) (hf : pc + 3 = pf) (ho : 0 ≤ (pc : Int) + o) (hp : ((pc : Int) + o).toNat = pt)
    (kT : x < 0 → Go p e below s cm sm Q T (mkF m pt Ls St)) (kF : ¬ (x < 0) → Go p e below s cm sm Q T (mkF m pf Ls St)) : Go p e below s cm sm Q T (mkF m pc Ls (.int x :: St)) :=
  w_if0 X hx hd hf ho hp (fun h => kT (h_lt.1 h)) (fun h => kF (h_lt.2 h))
theorem w_ifL_lt (X : Stand p l e R s m args below meth c T locs cells slots) (hx : p.tables.exec = Jvm.exec) {x y : Int64} {o : Int} {pt pf : Nat} (hd : decode c.code pc = .ok (.ifCond .lt o, 3)) (hf : pc + 3 = pf) (ho : 0 ≤ (pc : Int) + o) (hp : ((pc : Int) + o).toNat = pt)
    (kT : x < y → Go p e below s cm sm Q T (mkF m pt Ls St)) (kF : ¬ (x < y) → Go p e below s cm sm Q T (mkF m pf Ls St)) : Go p e below s cm sm Q T (mkF m pc Ls (.int (lcmpW x y) :: St)) :=
  w_if_lt X hx hd hf ho hp (fun q => kT ((lw_lt x y).1 q)) (fun q => kF (fun r => q ((lw_lt x y).2 r)))
theorem w_icmp_ge (X : Stand p l e R s m args below meth c T locs cells slots) (hx : p.tables.exec = Jvm.exec) {x y : Int32} {o : Int} {pt pf : Nat} (hd : decode c.code pc = .ok (.if_icmp .ge o, 3)) (hf : pc + 3 = pf) (ho : 0 ≤ (pc : Int) + o) (hp : ((pc : Int) + o).toNat = pt)
    (kT : ¬ (x < y) → Go p e below s cm sm Q T (mkF m pt Ls St)) (kF : x < y → Go p e below s cm sm Q T (mkF m pf Ls St)) : Go p e below s cm sm Q T (mkF m pc Ls (.int y :: .int x :: St)) :=
  w_icmp0 X hx hd hf ho hp (fun h => kT (h_ge.1 h)) (fun h => kF (h_ge.2 h))
theorem w_if_ge (X : Stand p l e R s m args below meth c T locs cells slots) (hx : p.tables.exec = Jvm.exec) {x : Int32} {o : Int} {pt pf : Nat} (hd : decode c.code pc = .ok (.ifCond .ge o, 3)) (hf : pc + 3 = pf) (ho : 0 ≤ (pc : Int) + o) (hp : ((pc : Int) + o).toNat = pt)
    (kT : ¬ (x < 0) → Go p e below s cm sm Q T (mkF m pt Ls St)) (kF : x < 0 → Go p e below s cm sm Q T (mkF m pf Ls St)) : Go p e below s cm sm Q T (mkF m pc Ls (.int x :: St)) :=
  w_if0 X hx hd hf ho hp (fun h => kT (h_ge.1 h)) (fun h => kF (h_ge.2 h))
theorem w_ifL_ge (X : Stand p l e R s m args below meth c T locs cells slots) (hx : p.tables.exec = Jvm.exec) {x y : Int64} {o : Int} {pt pf : Nat} (hd : decode c.code pc = .ok (.ifCond .ge o, 3)) (hf : pc + 3 = pf) (ho : 0 ≤ (pc : Int) + o) (hp : ((pc : Int) + o).toNat = pt)
    (kT : ¬ (x < y) → Go p e below s cm sm Q T (mkF m pt Ls St)) (kF : x < y → Go p e below s cm sm Q T (mkF m pf Ls St)) : Go p e below s cm sm Q T (mkF m pc Ls (.int (lcmpW x y) :: St)) :=
  w_if_ge X hx hd hf ho hp (fun q => kT (fun r => q ((lw_lt x y).2 r))) (fun q => kF ((lw_lt x y).1 q))
theorem w_icmp_gt (X : Stand p l e R s m args below meth c T locs cells slots) (hx : p.tables.exec = Jvm.exec) {x y : Int32} {o : Int} {pt pf : Nat} (hd : decode c.code pc = .ok (.if_icmp .gt o, 3)) (hf : pc + 3 = pf) (ho : 0 ≤ (pc : Int) + o) (hp : ((pc : Int) + o).toNat = pt)
    (kT : y < x → Go p e below s cm sm Q T (mkF m pt Ls St)) (kF : ¬ (y < x) → Go p e below s cm sm Q T (mkF m pf Ls St)) : Go p e below s cm sm Q T (mkF m pc Ls (.int y :: .int x :: St)) :=
  w_icmp0 X hx hd hf ho hp (fun h => kT (h_gt.1 h)) (fun h => kF (h_gt.2 h))
theorem w_if_gt (X : Stand p l e R s m args below meth c T locs cells slots) (hx : p.tables.exec = Jvm.exec) {x : Int32} {o : Int} {pt pf : Nat} (hd : decode c.code pc = .ok (.ifCond .gt o, 3)) (hf : pc + 3 = pf) (ho : 0 ≤ (pc : Int) + o) (hp : ((pc : Int) + o).toNat = pt)
    (kT : 0 < x → Go p e below s cm sm Q T (mkF m pt Ls St)) (kF : ¬ (0 < x) → Go p e below s cm sm Q T (mkF m pf Ls St)) : Go p e below s cm sm Q T (mkF m pc Ls (.int x :: St)) :=
  w_if0 X hx hd hf ho hp (fun h => kT (h_gt.1 h)) (fun h => kF (h_gt.2 h))
theorem w_ifL_gt (X : Stand p l e R s m args below meth c T locs cells slots) (hx : p.tables.exec = Jvm.exec) {x y : Int64} {o : Int} {pt pf : Nat} (hd : decode c.code pc = .ok (.ifCond .gt o, 3)) (hf : pc + 3 = pf) (ho : 0 ≤ (pc : Int) + o) (hp : ((pc : Int) + o).toNat = pt)
    (kT : y < x → Go p e below s cm sm Q T (mkF m pt Ls St)) (kF : ¬ (y < x) → Go p e below s cm sm Q T (mkF m pf Ls St)) : Go p e below s cm sm Q T (mkF m pc Ls (.int (lcmpW x y) :: St)) :=
  w_if_gt X hx hd hf ho hp (fun q => kT ((lw_gt x y).1 q)) (fun q => kF (fun r => q ((lw_gt x y).2 r)))
theorem w_icmp_le (X : Stand p l e R s m args below meth c T locs cells slots) (hx : p.tables.exec = Jvm.exec) {x y : Int32} {o : Int} {pt pf : Nat} (hd : decode c.code pc = .ok (.if_icmp .le o, 3)) (hf : pc + 3 = pf) (ho : 0 ≤ (pc : Int) + o) (hp : ((pc : Int) + o).toNat = pt)
    (kT : ¬ (y < x) → Go p e below s cm sm Q T (mkF m pt Ls St)) (kF : y < x → Go p e below s cm sm Q T (mkF m pf Ls St)) : Go p e below s cm sm Q T (mkF m pc Ls (.int y :: .int x :: St)) :=
  w_icmp0 X hx hd hf ho hp (fun h => kT (h_le.1 h)) (fun h => kF (h_le.2 h))
theorem w_if_le (X : Stand p l e R s m args below meth c T locs cells slots) (hx : p.tables.exec = Jvm.exec) {x : Int32} {o : Int} {pt pf : Nat} (hd : decode c.code pc = .ok (.ifCond .le o, 3)) (hf : pc + 3 = pf) (ho : 0 ≤ (pc : Int) + o) (hp : ((pc : Int) + o).toNat = pt)
    (kT : ¬ (0 < x) → Go p e below s cm sm Q T (mkF m pt Ls St)) (kF : 0 < x → Go p e below s cm sm Q T (mkF m pf Ls St)) : Go p e below s cm sm Q T (mkF m pc Ls (.int x :: St)) :=
  w_if0 X hx hd hf ho hp (fun h => kT (h_le.1 h)) (fun h => kF (h_le.2 h))
theorem w_ifL_le (X : Stand p l e R s m args below meth c T locs cells slots) (hx : p.tables.exec = Jvm.exec) {x y : Int64} {o : Int} {pt pf : Nat} (hd : decode c.code pc = .ok (.ifCond .le o, 3)) (hf : pc + 3 = pf) (ho : 0 ≤ (pc : Int) + o) (hp : ((pc : Int) + o).toNat = pt)
    (kT : ¬ (y < x) → Go p e below s cm sm Q T (mkF m pt Ls St)) (kF : y < x → Go p e below s cm sm Q T (mkF m pf Ls St)) : Go p e below s cm sm Q T (mkF m pc Ls (.int (lcmpW x y) :: St)) :=
  w_if_le X hx hd hf ho hp (fun q => kT (fun r => q ((lw_gt x y).2 r))) (fun q => kF ((lw_gt x y).1 q))
theorem w_icmp_eq (X : Stand p l e R s m args below meth c T locs cells slots) (hx : p.tables.exec = Jvm.exec) {x y : Int32} {o : Int} {pt pf : Nat} (hd : decode c.code pc = .ok (.if_icmp .eq o, 3)) (hf : pc + 3 = pf) (ho : 0 ≤ (pc : Int) + o) (hp : ((pc : Int) + o).toNat = pt)
    (kT : x = y → Go p e below s cm sm Q T (mkF m pt Ls St)) (kF : ¬ (x = y) → Go p e below s cm sm Q T (mkF m pf Ls St)) : Go p e below s cm sm Q T (mkF m pc Ls (.int y :: .int x :: St)) :=
  w_icmp0 X hx hd hf ho hp (fun h => kT (h_eq.1 h)) (fun h => kF (h_eq.2 h))
theorem w_if_eq (X : Stand p l e R s m args below meth c T locs cells slots) (hx : p.tables.exec = Jvm.exec) {x : Int32} {o : Int} {pt pf : Nat} (hd : decode c.code pc = .ok (.ifCond .eq o, 3)) (hf : pc + 3 = pf) (ho : 0 ≤ (pc : Int) + o) (hp : ((pc : Int) + o).toNat = pt)
    (kT : x = 0 → Go p e below s cm sm Q T (mkF m pt Ls St)) (kF : ¬ (x = 0) → Go p e below s cm sm Q T (mkF m pf Ls St)) : Go p e below s cm sm Q T (mkF m pc Ls (.int x :: St)) :=
  w_if0 X hx hd hf ho hp (fun h => kT (h_eq.1 h)) (fun h => kF (h_eq.2 h))
theorem w_ifL_eq (X : Stand p l e R s m args below meth c T locs cells slots) (hx : p.tables.exec = Jvm.exec) {x y : Int64} {o : Int} {pt pf : Nat} (hd : decode c.code pc = .ok (.ifCond .eq o, 3)) (hf : pc + 3 = pf) (ho : 0 ≤ (pc : Int) + o) (hp : ((pc : Int) + o).toNat = pt)
    (kT : x = y → Go p e below s cm sm Q T (mkF m pt Ls St)) (kF : ¬ (x = y) → Go p e below s cm sm Q T (mkF m pf Ls St)) : Go p e below s cm sm Q T (mkF m pc Ls (.int (lcmpW x y) :: St)) :=
  w_if_eq X hx hd hf ho hp (fun q => kT ((lw_eq x y).1 q)) (fun q => kF (fun r => q ((lw_eq x y).2 r)))
theorem w_icmp_ne (X : Stand p l e R s m args below meth c T locs cells slots) (hx : p.tables.exec = Jvm.exec) {x y : Int32} {o : Int} {pt pf : Nat} (hd : decode c.code pc = .ok (.if_icmp .ne o, 3)) (hf : pc + 3 = pf) (ho : 0 ≤ (pc : Int) + o) (hp : ((pc : Int) + o).toNat = pt)
    (kT : ¬ (x = y) → Go p e below s cm sm Q T (mkF m pt Ls St)) (kF : x = y → Go p e below s cm sm Q T (mkF m pf Ls St)) : Go p e below s cm sm Q T (mkF m pc Ls (.int y :: .int x :: St)) :=
  w_icmp0 X hx hd hf ho hp (fun h => kT (h_ne.1 h)) (fun h => kF (h_ne.2 h))
theorem w_if_ne (X : Stand p l e R s m args below meth c T locs cells slots) (hx : p.tables.exec = Jvm.exec) {x : Int32} {o : Int} {pt pf : Nat} (hd : decode c.code pc = .ok (.ifCond .ne o, 3)) (hf : pc + 3 = pf) (ho : 0 ≤ (pc : Int) + o) (hp : ((pc : Int) + o).toNat = pt)
    (kT : ¬ (x = 0) → Go p e below s cm sm Q T (mkF m pt Ls St)) (kF : x = 0 → Go p e below s cm sm Q T (mkF m pf Ls St)) : Go p e below s cm sm Q T (mkF m pc Ls (.int x :: St)) :=
  w_if0 X hx hd hf ho hp (fun h => kT (h_ne.1 h)) (fun h => kF (h_ne.2 h))
theorem w_ifL_ne (X : Stand p l e R s m args below meth c T locs cells slots) (hx : p.tables.exec = Jvm.exec) {x y : Int64} {o : Int} {pt pf : Nat} (hd : decode c.code pc = .ok (.ifCond .ne o, 3)) (hf : pc + 3 = pf) (ho : 0 ≤ (pc : Int) + o) (hp : ((pc : Int) + o).toNat = pt)
    (kT : ¬ (x = y) → Go p e below s cm sm Q T (mkF m pt Ls St)) (kF : x = y → Go p e below s cm sm Q T (mkF m pf Ls St)) : Go p e below s cm sm Q T (mkF m pc Ls (.int (lcmpW x y) :: St)) :=
  w_if_ne X hx hd hf ho hp (fun q => kT (fun r => q ((lw_eq x y).2 r))) (fun q => kF ((lw_eq x y).1 q))
theorem w_ldc (X : Stand p l e R s m args below meth c T locs cells slots) (hx : p.tables.exec = Jvm.exec) (hZ : Z.Warmed39 s.vm) {own : String} {index : Nat} {v : Int32} (hown : s.vm.findClass own = some m.cls) (w : (Jvm.Cond.constant own index v).before a0 Z = true) (hd : decode c.code pc = .ok (.ldc index, 2)) (hp : pc + 2 = pc')
    (kk : Go p e below s cm sm Q T (mkF m pc' Ls (.int v :: St))) : Go p e below s cm sm Q T (mkF m pc Ls St) := by
  subst hp
  exact Go.st (fun t q => X.ldcInt hx hown (mvT hZ w) (g := mkF m pc Ls St) rfl hd t q) kk
theorem w_ldcw (X : Stand p l e R s m args below meth c T locs cells slots) (hx : p.tables.exec = Jvm.exec) (hZ : Z.Warmed39 s.vm) {own : String} {index : Nat} {v : Int32} (hown : s.vm.findClass own = some m.cls) (w : (Jvm.Cond.constant own index v).before a0 Z = true) (hd : decode c.code pc = .ok (.ldc_w index, 3)) (hp : pc + 3 = pc')
    (kk : Go p e below s cm sm Q T (mkF m pc' Ls (.int v :: St))) : Go p e below s cm sm Q T (mkF m pc Ls St) := by
  subst hp
  exact Go.st (fun t q => X.ldcWI hx hown (mvT hZ w) (g := mkF m pc Ls St) rfl hd q) kk
theorem w_ldc2 (X : Stand p l e R s m args below meth c T locs cells slots) (hx : p.tables.exec = Jvm.exec) (hZ : Z.Warmed39 s.vm) {own : String} {index : Nat} {v : Int64} (hown : s.vm.findClass own = some m.cls) (w : (Jvm.Cond.constantLong own index v).before a0 Z = true) (hd : decode c.code pc = .ok (.ldc2_w index, 3)) (hp : pc + 3 = pc')
    (kk : Go p e below s cm sm Q T (mkF m pc' Ls (.long v :: St))) : Go p e below s cm sm Q T (mkF m pc Ls St) := by
  subst hp
  exact Go.st (fun t q => X.ldc2Long hx hown (mvT hZ w) (g := mkF m pc Ls St) rfl hd t q) kk
theorem w_retZ (X : Stand p l e R s m args below meth c T locs cells slots) (hx : p.tables.exec = Jvm.exec) (hret : meth.sig.returnType = some .boolean) (hlk : meth.locks = false) {z : Int32} (hd : decode c.code pc = .ok (.ireturn, 1)) (hc : cells ≤ cm) (hs : slots ≤ sm) (hQ : Q (some (.int (nar .boolean z))) T.heap locs) : Go p e below s cm sm Q T (mkF m pc Ls (.int z :: St)) := by
  obtain ⟨fs, hr, hrun, hended, hW, hsame⟩ := X.leave (v := some (.int (nar .boolean z))) (fun h => by rw [hret] at h; cases h) hlk
  exact ⟨_, _, retN X hx (t := .boolean) hret (by simp) hd hr, hrun, hended, _, _, rfl, hQ, ⟨_, rfl⟩, hW, hsame.mono hc hs⟩
theorem w_retB (X : Stand p l e R s m args below meth c T locs cells slots) (hx : p.tables.exec = Jvm.exec) (hret : meth.sig.returnType = some .byte) (hlk : meth.locks = false) {z : Int32} (hd : decode c.code pc = .ok (.ireturn, 1)) (hc : cells ≤ cm) (hs : slots ≤ sm) (hQ : Q (some (.int (nar .byte z))) T.heap locs) : Go p e below s cm sm Q T (mkF m pc Ls (.int z :: St)) := by
  obtain ⟨fs, hr, hrun, hended, hW, hsame⟩ := X.leave (v := some (.int (nar .byte z))) (fun h => by rw [hret] at h; cases h) hlk
  exact ⟨_, _, retN X hx (t := .byte) hret (by simp) hd hr, hrun, hended, _, _, rfl, hQ, ⟨_, rfl⟩, hW, hsame.mono hc hs⟩
theorem w_retC (X : Stand p l e R s m args below meth c T locs cells slots) (hx : p.tables.exec = Jvm.exec) (hret : meth.sig.returnType = some .char) (hlk : meth.locks = false) {z : Int32} (hd : decode c.code pc = .ok (.ireturn, 1)) (hc : cells ≤ cm) (hs : slots ≤ sm) (hQ : Q (some (.int (nar .char z))) T.heap locs) : Go p e below s cm sm Q T (mkF m pc Ls (.int z :: St)) := by
  obtain ⟨fs, hr, hrun, hended, hW, hsame⟩ := X.leave (v := some (.int (nar .char z))) (fun h => by rw [hret] at h; cases h) hlk
  exact ⟨_, _, retN X hx (t := .char) hret (by simp) hd hr, hrun, hended, _, _, rfl, hQ, ⟨_, rfl⟩, hW, hsame.mono hc hs⟩
theorem w_retS (X : Stand p l e R s m args below meth c T locs cells slots) (hx : p.tables.exec = Jvm.exec) (hret : meth.sig.returnType = some .short) (hlk : meth.locks = false) {z : Int32} (hd : decode c.code pc = .ok (.ireturn, 1)) (hc : cells ≤ cm) (hs : slots ≤ sm) (hQ : Q (some (.int (nar .short z))) T.heap locs) : Go p e below s cm sm Q T (mkF m pc Ls (.int z :: St)) := by
  obtain ⟨fs, hr, hrun, hended, hW, hsame⟩ := X.leave (v := some (.int (nar .short z))) (fun h => by rw [hret] at h; cases h) hlk
  exact ⟨_, _, retN X hx (t := .short) hret (by simp) hd hr, hrun, hended, _, _, rfl, hQ, ⟨_, rfl⟩, hW, hsame.mono hc hs⟩
theorem w_retI (X : Stand p l e R s m args below meth c T locs cells slots) (hx : p.tables.exec = Jvm.exec) (hret : meth.sig.returnType = some .int) (hlk : meth.locks = false) {z : Int32} (hd : decode c.code pc = .ok (.ireturn, 1)) (hc : cells ≤ cm) (hs : slots ≤ sm) (hQ : Q (some (.int z)) T.heap locs) : Go p e below s cm sm Q T (mkF m pc Ls (.int z :: St)) := by
  obtain ⟨fs, hr, hrun, hended, hW, hsame⟩ := X.leave (v := some (.int z)) (fun h => by rw [hret] at h; cases h) hlk
  refine ⟨T.setFrames fs, _, ?_, hrun, hended, _, _, rfl, hQ, ⟨_, rfl⟩, hW, hsame.mono hc hs⟩
  have hm' : T.vm.method? m = some meth := X.method'
  have hn : narrow .int (.int z) = .int z := rfl
  show Steps p.tables e below (T.setTop { method := m, pc := pc, locals := Ls, stack := .int z :: St, locked := none }) _
  jvm_step X.here [X.here.top, hx, hd, hm', hret, hn]
  first | (intro acts; rw [hr _ acts rfl rfl rfl]) | rw [hr _ _ rfl rfl rfl]
  exact Steps.refl _
theorem w_retJ (X : Stand p l e R s m args below meth c T locs cells slots) (hx : p.tables.exec = Jvm.exec) (hret : meth.sig.returnType = some .long) (hlk : meth.locks = false) {z : Int64} (hd : decode c.code pc = .ok (.lreturn, 1)) (hc : cells ≤ cm) (hs : slots ≤ sm) (hQ : Q (some (.long z)) T.heap locs) : Go p e below s cm sm Q T (mkF m pc Ls [.long z]) := by
  obtain ⟨fs, hr, hrun, hended, hW, hsame⟩ := X.leave (v := some (.long z)) (fun h => by rw [hret] at h; cases h) hlk
  exact ⟨T.setFrames fs, _, X.lreturnOut hx hret hd hr, hrun, hended, _, _, rfl, hQ, ⟨_, rfl⟩, hW, hsame.mono hc hs⟩
theorem w_retV (X : Stand p l e R s m args below meth c T locs cells slots) (hx : p.tables.exec = Jvm.exec) (hret : meth.sig.returnType = none) (hlk : meth.locks = false) (hd : decode c.code pc = .ok (.return_, 1)) (hc : cells ≤ cm) (hs : slots ≤ sm) (hQ : Q none T.heap locs) : Go p e below s cm sm Q T (mkF m pc Ls []) := by
  obtain ⟨fs, hr, hrun, hended, hW, hsame⟩ := X.leave (v := none) (fun _ => rfl) hlk
  exact ⟨T.setFrames fs, _, X.returnOut hx hret hd hr, hrun, hended, _, _, rfl, hQ, ⟨_, rfl⟩, hW, hsame.mono hc hs⟩
theorem w_retA (X : Stand p l e R s m args below meth c T locs cells slots) (hx : p.tables.exec = Jvm.exec) {rt : FieldType} (hret : meth.sig.returnType = some rt) (hrt : rt.isReference = true) (hlk : meth.locks = false) {a : Addr} (hd : decode c.code pc = .ok (.areturn, 1)) (hc : cells ≤ cm) (hs : slots ≤ sm) (hQ : Q (some (.ref a)) T.heap locs) : Go p e below s cm sm Q T (mkF m pc Ls (.ref a :: St)) := by
  obtain ⟨fs, hr, hrun, hended, hW, hsame⟩ := X.leave (v := some (.ref a)) (fun h => by rw [hret] at h; cases h) hlk
  refine ⟨T.setFrames fs, _, ?_, hrun, hended, _, _, rfl, hQ, ⟨_, rfl⟩, hW, hsame.mono hc hs⟩
  have hm' : T.vm.method? m = some meth := X.method'
  show Steps p.tables e below (T.setTop { method := m, pc := pc, locals := Ls, stack := .ref a :: St, locked := none }) _
  jvm_step X.here [X.here.top, hx, hd, hm', hret, Value.isRef, hrt]
  first | (intro acts; rw [hr _ acts rfl rfl rfl]) | rw [hr _ _ rfl rfl rfl]
  exact Steps.refl _
theorem Con.back {y : MethodName} {bytes : ByteArray} {maxL : Nat} {ret : Option FieldType} {rm : Room} {len W : Nat} {as' : Array Value} {Qc : Option Value → Heap → List Loc → Prop} (C : Con l Z y bytes maxL ret rm as' h Qc) (hZ : Z.Warmed39 s.vm) (wc : (Jvm.Cond.code y bytes maxL ret).before a0 Z = true) (wz : (Jvm.Cond.initialized y.cls).before a0 Z = true) (hf : rm.frames + 1 ≤ R.frames) (hl : W + (maxL + 11) + rm.locals ≤ R.locals) :
    Back l R p e below s args y len W (fun A a => a = as' ∧ A.U.heap = h ∧ A.cells + rm.cells ≤ R.cells ∧ A.slots + rm.slots ≤ R.slots) (fun A _ v B => ∃ L, Qc v B.U.heap L ∧ B.locs = A.locs ++ L ∧ B.cells = A.cells + rm.cells ∧ B.slots = A.slots + rm.slots) :=
  backOf (C []) hZ wc wz hf hl
theorem w_callS (X : Stand p l e R s m args below meth c T locs cells slots) (hx : p.tables.exec = Jvm.exec) (hZ : Z.Warmed39 s.vm) {own : String} {index : Nat} {y : MethodName} {bytes : ByteArray} {maxL : Nat} {ret : Option FieldType} {rm : Room} {W : Nat} {argsL rest : List Value} {Qc : Option Value → Heap → List Loc → Prop} (hown : s.vm.findClass own = some m.cls) (eT : T.heap = h) (C : Con l Z y bytes maxL ret rm argsL.toArray h Qc) (w1 : (Jvm.Cond.methodLink own index y).before a0 Z = true) (w2 : (Jvm.Cond.static y).before a0 Z = true) (w3 : (Jvm.Cond.initialized y.cls).before a0 Z = true) (w4 : (Jvm.Cond.code y bytes maxL ret).before a0 Z = true) (hy : y.cls ≠ "java/lang/invoke/MethodHandle" ∧ y.cls ≠ "java/lang/invoke/VarHandle")
    (hf : rm.frames + 1 ≤ R.frames) (hl : W + (maxL + 11) + rm.locals ≤ R.locals) (hc : cells + rm.cells ≤ R.cells) (hs : slots + rm.slots ≤ R.slots) (hsz : Ls.size = c.maxLocals) (hlen : ∀ sig, parseMethodDescriptor y.desc = some sig → argsL.length = sig.parameters.length) (hW : (rest.map fun v => v.category).sum ≤ W) (hst : St = argsL.reverse ++ rest) (hd : decode c.code pc = .ok (.invokestatic index, 3)) (hp : pc + 3 = pc')
    (kk : ∀ (T' : State) (L : List Loc) (v : Option Value), Stand p l e R s m args below meth c T' (locs ++ L) (cells + rm.cells) (slots + rm.slots) → Qc v T'.heap L → Go p e below s cm sm Q T' (mkF m pc' Ls (v.toList ++ rest))) : Go p e below s cm sm Q T (mkF m pc Ls St) := by
  subst hp hst
  obtain ⟨v, _, ⟨T1, L1, k1, n1⟩, -, X1, ⟨Lc, hQ, l1, y1, z1⟩, st⟩ := Jvm.LawKit.callS X hx (y := y) hown (mvT hZ w1) (mvT hZ w2) (mvT hZ w3) (mvT hZ w4) hy (C.back (W := W) hZ w4 w3 hf hl) (g := mkF m pc Ls (argsL.reverse ++ rest)) rfl hsz (argsL := argsL) (rest := rest) hlen rfl (by show 2 * 0 + _ ≤ _; rw [Nat.mul_zero, Nat.zero_add]; exact hW) hd (fun _ _ => ⟨rfl, eT, hc, hs⟩)
  dsimp only [Pt.U, Pt.locs, Pt.cells, Pt.slots] at X1 l1 y1 z1 st hQ
  subst l1 y1 z1
  exact Go.st st (kk _ _ _ X1 hQ)
theorem w_callI (X : Stand p l e R s m args below meth c T locs cells slots) (hx : p.tables.exec = Jvm.exec) (hZ : Z.Warmed39 s.vm) {own : String} {index : Nat} {y : MethodName} {bytes : ByteArray} {maxL : Nat} {rm : Room} {W : Nat} {argsL rest : List Value} {Qc : Option Value → Heap → List Loc → Prop} {a : Addr} (hown : s.vm.findClass own = some m.cls) (eT : T.heap = h) (C : Con l Z y bytes maxL none rm (.ref a :: argsL).toArray h Qc) (hn : y.name = "<init>") (w1 : (Jvm.Cond.methodLink own index y).before a0 Z = true) (w2 : (Jvm.Cond.instanceMethod y).before a0 Z = true) (w3 : (Jvm.Cond.initialized y.cls).before a0 Z = true) (w4 : (Jvm.Cond.code y bytes maxL none).before a0 Z = true) (hy : y.cls ≠ "java/lang/invoke/MethodHandle" ∧ y.cls ≠ "java/lang/invoke/VarHandle")
    (hf : rm.frames + 1 ≤ R.frames) (hl : W + (maxL + 11) + rm.locals ≤ R.locals) (hc : cells + rm.cells ≤ R.cells) (hs : slots + rm.slots ≤ R.slots) (hsz : Ls.size = c.maxLocals) (hlen : ∀ sig, parseMethodDescriptor y.desc = some sig → argsL.length = sig.parameters.length) (hW : (rest.map fun v => v.category).sum ≤ W) (hst : St = argsL.reverse ++ .ref a :: rest) (hd : decode c.code pc = .ok (.invokespecial index, 3)) (hp : pc + 3 = pc')
    (kk : ∀ (T' : State) (L : List Loc) (v : Option Value), Stand p l e R s m args below meth c T' (locs ++ L) (cells + rm.cells) (slots + rm.slots) → Qc v T'.heap L → Go p e below s cm sm Q T' (mkF m pc' Ls (v.toList ++ rest))) : Go p e below s cm sm Q T (mkF m pc Ls St) := by
  subst hp hst
  obtain ⟨v, _, ⟨T1, L1, k1, n1⟩, -, X1, ⟨Lc, hQ, l1, y1, z1⟩, st⟩ := X.specialBack hx (y := y) hn hown (mvT hZ w1) (mvT hZ w2) (mvT hZ w4) hy (C.back (W := W) hZ w4 w3 hf hl) (g := mkF m pc Ls (argsL.reverse ++ .ref a :: rest)) rfl hsz (Steps.refl _) (a := a) (argsL := argsL) (rest := rest) hlen rfl (by show 2 * 0 + _ ≤ _; rw [Nat.mul_zero, Nat.zero_add]; exact hW) hd (fun _ _ => ⟨rfl, eT, hc, hs⟩)
  dsimp only [Pt.U, Pt.locs, Pt.cells, Pt.slots] at X1 l1 y1 z1 st hQ
  subst l1 y1 z1
  exact Go.st (fun t q => st.trans q) (kk _ _ _ X1 hQ)
theorem w_callV (X : Stand p l e R s m args below meth c T locs cells slots) (hx : p.tables.exec = Jvm.exec) (hZ : Z.Warmed39 s.vm) {own : String} {index : Nat} {y : MethodName} {bytes : ByteArray} {maxL : Nat} {ret : Option FieldType} {rm : Room} {W : Nat} {argsL rest : List Value} {Qc : Option Value → Heap → List Loc → Prop} {a : Addr} (hown : s.vm.findClass own = some m.cls) (eT : T.heap = h) (E : Exa Z h a y.cls) (C : Con l Z y bytes maxL ret rm (.ref a :: argsL).toArray h Qc) (w1 : (Jvm.Cond.methodLink own index y).before a0 Z = true) (wd : (Jvm.Cond.declares y).before a0 Z = true) (ws : (Jvm.Cond.selects y.cls y y).before a0 Z = true) (w2 : (Jvm.Cond.instanceMethod y).before a0 Z = true) (w3 : (Jvm.Cond.initialized y.cls).before a0 Z = true) (w4 : (Jvm.Cond.code y bytes maxL ret).before a0 Z = true) (hy : y.cls ≠ "java/lang/invoke/MethodHandle" ∧ y.cls ≠ "java/lang/invoke/VarHandle")
    (hf : rm.frames + 1 ≤ R.frames) (hl : W + (maxL + 11) + rm.locals ≤ R.locals) (hc : cells + rm.cells ≤ R.cells) (hs : slots + rm.slots ≤ R.slots) (hsz : Ls.size = c.maxLocals) (hlen : ∀ sig, parseMethodDescriptor y.desc = some sig → argsL.length = sig.parameters.length) (hW : (rest.map fun v => v.category).sum ≤ W) (hst : St = argsL.reverse ++ .ref a :: rest) (hd : decode c.code pc = .ok (.invokevirtual index, 3)) (hp : pc + 3 = pc')
    (kk : ∀ (T' : State) (L : List Loc) (v : Option Value), Stand p l e R s m args below meth c T' (locs ++ L) (cells + rm.cells) (slots + rm.slots) → Qc v T'.heap L → Go p e below s cm sm Q T' (mkF m pc' Ls (v.toList ++ rest))) : Go p e below s cm sm Q T (mkF m pc Ls St) := by
  subst hp hst
  obtain ⟨cq, kq, qa, qb, qc⟩ := isOf hZ eT E
  obtain ⟨v, _, ⟨T1, L1, k1, n1⟩, -, X1, ⟨Lc, hQ, l1, y1, z1⟩, st⟩ := X.virtualBack hx (y := y) (z := y) hown (mvT hZ w1) (mvT hZ wd) (notFace_of_selects (args := #[]) (mvT hZ ws)) (mvT hZ ws) (mvT hZ w2) hy (C.back (W := W) hZ w4 w3 hf hl) qa qc (g := mkF m pc Ls (argsL.reverse ++ .ref a :: rest)) rfl hsz (Steps.refl _) (argsL := argsL) (rest := rest) hlen rfl (by show 2 * 0 + _ ≤ _; rw [Nat.mul_zero, Nat.zero_add]; exact hW) hd (fun _ _ => ⟨rfl, eT, hc, hs⟩)
  dsimp only [Pt.U, Pt.locs, Pt.cells, Pt.slots] at X1 l1 y1 z1 st hQ
  subst l1 y1 z1
  exact Go.st (fun t q => st.trans q) (kk _ _ _ X1 hQ)
theorem w_initO (X : Stand p l e R s m args below meth c T locs cells slots) (hx : p.tables.exec = Jvm.exec) (hZ : Z.Warmed39 s.vm) {own : String} {index : Nat} {a : Addr} (hown : s.vm.findClass own = some m.cls) (eT : T.heap = h) (w1 : (Jvm.Cond.methodLink own index Lib.objectInit).before a0 Z = true) (w2 : (Jvm.Cond.instanceMethod Lib.objectInit).before a0 Z = true) (w3 : (Jvm.Cond.code Lib.objectInit ⟨#[0xb1]⟩ 1 none).before a0 Z = true) (hsz : Ls.size = c.maxLocals) (hd : decode c.code pc = .ok (.invokespecial index, 3)) (hf : 1 ≤ R.frames) {W : Nat} (hW : (St.map fun v => v.category).sum ≤ W) (hl : W + 12 ≤ R.locals) (hp : pc + 3 = pc')
    (kk : ∀ T' : State, Stand p l e R s m args below meth c T' locs cells slots → T'.heap = h → Go p e below s cm sm Q T' (mkF m pc' Ls St)) : Go p e below s cm sm Q T (mkF m pc Ls (.ref a :: St)) := by
  subst hp
  obtain ⟨T1, X1, e1, st⟩ := initO X hx hZ hown w1 w2 w3 eT (g := mkF m pc Ls (.ref a :: St)) rfl hsz rfl hd hf (W := W) (by show 2 * 0 + _ ≤ _; rw [Nat.mul_zero, Nat.zero_add]; exact hW) hl
  exact Go.st st (kk _ X1 e1)
theorem w_getF (X : Stand p l e R s m args below meth c T locs cells slots) (hx : p.tables.exec = Jvm.exec) (hZ : Z.Warmed39 s.vm) {own O n d : String} {index : Nat} {a : Addr} {v : Value} (hown : s.vm.findClass own = some m.cls) (eT : T.heap = h) (F : Fld Z h a O n d v) (w : (Jvm.Cond.fieldLink own index O n d).before a0 Z = true) (hd : decode c.code pc = .ok (.getfield index, 3)) (hp : pc + 3 = pc')
    (kk : ∀ T' : State, Stand p l e R s m args below meth c T' locs cells slots → T'.heap = h → Go p e below s cm sm Q T' (mkF m pc' Ls (v :: St))) : Go p e below s cm sm Q T (mkF m pc Ls (.ref a :: St)) := by
  subst hp
  obtain ⟨T1, X1, e1, st⟩ := getF X hx hZ hown (host := "") (Or.inl w) Via.refl eT F (g := mkF m pc Ls (.ref a :: St)) rfl rfl hd
  exact Go.st st (kk _ X1 e1)
theorem w_putF (X : Stand p l e R s m args below meth c T locs cells slots) (hx : p.tables.exec = Jvm.exec) (hZ : Z.Warmed39 s.vm) {own O n d C : String} {index kn : Nat} {ty : FieldType} {a : Addr} {v old : Value} (hown : s.vm.findClass own = some m.cls) (eT : T.heap = h) (F : Fld Z h a O n d old) (E : Exa Z h a C) (w : (Jvm.Cond.fieldLink own index O n d).before a0 Z = true) (L : (Jvm.Cond.lays C O n d).before a0 Z = true ∨ ((Jvm.Cond.laysFinal C O n d).before a0 Z = true ∧ own = O ∧ meth.name = "<init>")) (wi : (Jvm.Cond.instantiable C kn).before a0 Z = true) (hty : parseFieldDescriptor d = some ty) (hn : narrow ty v = v) (hf : fits ty v = true) (hd : decode c.code pc = .ok (.putfield index, 3)) (hp : pc + 3 = pc')
    (kk : ∀ (T' : State) (h' : Heap), Stand p l e R s m args below meth c T' (locs ++ [⟨a, RoadKit.slotOf Z O n d⟩]) cells slots → T'.heap = h' → Wr h h' a (RoadKit.slotOf Z O n d) v → Go p e below s cm sm Q T' (mkF m pc' Ls St)) : Go p e below s cm sm Q T (mkF m pc Ls (v :: .ref a :: St)) := by
  subst hp
  obtain ⟨T1, h1, X1, e1, W1, st⟩ := putF X hx hZ hown (host := "") (Or.inl w) Via.refl eT F E L wi hty hn hf (g := mkF m pc Ls (v :: .ref a :: St)) rfl rfl hd
  exact Go.st st (kk _ _ X1 e1 W1)
theorem w_newO (X : Stand p l e R s m args below meth c T locs cells slots) (hx : p.tables.exec = Jvm.exec) (hZ : Z.Warmed39 s.vm) {own C : String} {index kn : Nat} (hown : s.vm.findClass own = some m.cls) (eT : T.heap = h) (w : (Jvm.Cond.classLink own index C).before a0 Z = true) (wi : (Jvm.Cond.instantiable C kn).before a0 Z = true) (wz : (Jvm.Cond.initialized C).before a0 Z = true) (hd : decode c.code pc = .ok (.new index, 3)) (hc : cells + 1 ≤ R.cells) (hl : slots + kn ≤ R.slots) (hp : pc + 3 = pc')
    (kk : ∀ (T' : State) (h' : Heap) (b : Addr), Stand p l e R s m args below meth c T' locs (cells + 1) (slots + kn) → T'.heap = h' → Ext h h' → b = h.size → Exa Z h' b C → (∀ {O nm d : String} {ty : FieldType}, Laid Z a0 C O nm d → parseFieldDescriptor d = some ty → Fld Z h' b O nm d (defaultValue ty)) → Go p e below s cm sm Q T' (mkF m pc' Ls (.ref b :: St))) : Go p e below s cm sm Q T (mkF m pc Ls St) := by
  subst hp
  obtain ⟨T1, h1, X1, e1, E1, A1, D1, -, st⟩ := newO X hx hZ hown w wi wz eT (g := mkF m pc Ls St) rfl hd hc hl
  exact Go.st st (kk _ _ _ X1 e1 E1 rfl A1 D1)
/-- an array of ints, bytes, chars, shorts or booleans, by its list -/
def AI (Z : State) (h : Heap) (a : Addr) (ty : FieldType) (vs : List Int32) : Prop := ∃ c : Cell, Arr Z h a c ty ∧ c.slots.toList = vs.map Value.int ∧ vs.length < 2147483648
/-- an array of longs, by its list -/
def AJ (Z : State) (h : Heap) (a : Addr) (vs : List Int64) : Prop := ∃ c : Cell, Arr Z h a c .long ∧ c.slots.toList = vs.map Value.long ∧ vs.length < 2147483648
theorem AI.lt {a : Addr} {ty : FieldType} {vs : List Int32} (F : AI Z h a ty vs) : a < h.size := by obtain ⟨c, q, -⟩ := F; exact q.lt
theorem AI.ext {a : Addr} {ty : FieldType} {vs : List Int32} (F : AI Z h a ty vs) (E : Ext h h') : AI Z h' a ty vs := by obtain ⟨c, q, r⟩ := F; exact ⟨c, q.ext E, r⟩
theorem AI.other {a b : Addr} {ty : FieldType} {vs : List Int32} {sl : Nat} {v : Value} (F : AI Z h a ty vs) (W : Wr h h' b sl v) (q : a ≠ b) : AI Z h' a ty vs := by obtain ⟨c, A, r⟩ := F; exact ⟨c, A.other W q, r⟩
theorem AI.keep {a : Addr} {ty : FieldType} {vs : List Int32} {ws : List Addr} (F : AI Z h a ty vs) (K : Keep h h' ws) (q : a ∉ ws) : AI Z h' a ty vs := by obtain ⟨c, A, r⟩ := F; exact ⟨c, ⟨K.2.1 a c A.1 q, A.2⟩, r⟩
theorem AI.new {a : Addr} {k : ClassId} {z : Int32} {ty : FieldType} (A : Arr Z h a (newA k ty z) ty) (hd : defaultValue ty = .int 0) : AI Z h a ty (List.replicate z.toNatClampNeg 0) := by
  refine ⟨_, A, ?_, ?_⟩
  · simp [newA, hd]
  · have := z.toInt_lt; rw [List.length_replicate]; show z.toInt.toNat < _; omega
theorem AI.wr {a : Addr} {ty : FieldType} {vs : List Int32} {j : Nat} {x : Int32} (F : AI Z h a ty vs) (W : Wr h h' a j (Value.int x)) : AI Z h' a ty (vs.set j x) := by
  obtain ⟨c, A, q, r⟩ := F
  refine ⟨_, A.same W, ?_, by simpa using r⟩
  simp [Cell.setSlot, q, List.map_set]
theorem AI.len {a : Addr} {ty : FieldType} {vs : List Int32} (F : AI Z h a ty vs) : vs.length < 2147483648 := by obtain ⟨c, q, r, t⟩ := F; exact t
theorem AI.sz {vs : List Int32} {c : Cell} (q : c.slots.toList = vs.map Value.int) : c.slots.size = vs.length := by
  have := congrArg List.length q; simpa using this
theorem AI.at {vs : List Int32} {c : Cell} {j : Nat} {x : Int32} (q : c.slots.toList = vs.map Value.int) (hv : vs[j]? = some x) : c.slots[j]? = some (Value.int x) := by
  rw [← Array.getElem?_toList, q]; simp [hv]
theorem AI.inb {vs : List Int32} {c : Cell} {j : Int32} (q : c.slots.toList = vs.map Value.int) (hj : ¬ j < 0) (hl : j.toNatClampNeg < vs.length) : ¬ (j < 0 ∨ c.slots.size ≤ j.toNatClampNeg) := by
  have := AI.sz q
  rw [this]
  rintro (r | r)
  · exact hj r
  · omega
theorem AJ.lt {a : Addr} {vs : List Int64} (F : AJ Z h a vs) : a < h.size := by obtain ⟨c, q, -⟩ := F; exact q.lt
theorem AJ.ext {a : Addr} {vs : List Int64} (F : AJ Z h a vs) (E : Ext h h') : AJ Z h' a vs := by obtain ⟨c, q, r⟩ := F; exact ⟨c, q.ext E, r⟩
theorem AJ.other {a b : Addr} {vs : List Int64} {sl : Nat} {v : Value} (F : AJ Z h a vs) (W : Wr h h' b sl v) (q : a ≠ b) : AJ Z h' a vs := by obtain ⟨c, A, r⟩ := F; exact ⟨c, A.other W q, r⟩
theorem AJ.keep {a : Addr} {vs : List Int64} {ws : List Addr} (F : AJ Z h a vs) (K : Keep h h' ws) (q : a ∉ ws) : AJ Z h' a vs := by obtain ⟨c, A, r⟩ := F; exact ⟨c, ⟨K.2.1 a c A.1 q, A.2⟩, r⟩
theorem AJ.new {a : Addr} {k : ClassId} {z : Int32} (A : Arr Z h a (newA k .long z) .long) : AJ Z h a (List.replicate z.toNatClampNeg 0) := by
  refine ⟨_, A, ?_, ?_⟩
  · simp [newA, defaultValue]
  · have := z.toInt_lt; rw [List.length_replicate]; show z.toInt.toNat < _; omega
theorem AJ.wr {a : Addr} {vs : List Int64} {j : Nat} {x : Int64} (F : AJ Z h a vs) (W : Wr h h' a j (Value.long x)) : AJ Z h' a (vs.set j x) := by
  obtain ⟨c, A, q, r⟩ := F
  refine ⟨_, A.same W, ?_, by simpa using r⟩
  simp [Cell.setSlot, q, List.map_set]
theorem AJ.len {a : Addr} {vs : List Int64} (F : AJ Z h a vs) : vs.length < 2147483648 := by obtain ⟨c, q, r, t⟩ := F; exact t
theorem AJ.sz {vs : List Int64} {c : Cell} (q : c.slots.toList = vs.map Value.long) : c.slots.size = vs.length := by
  have := congrArg List.length q; simpa using this
theorem AJ.at {vs : List Int64} {c : Cell} {j : Nat} {x : Int64} (q : c.slots.toList = vs.map Value.long) (hv : vs[j]? = some x) : c.slots[j]? = some (Value.long x) := by
  rw [← Array.getElem?_toList, q]; simp [hv]
theorem AJ.inb {vs : List Int64} {c : Cell} {j : Int32} (q : c.slots.toList = vs.map Value.long) (hj : ¬ j < 0) (hl : j.toNatClampNeg < vs.length) : ¬ (j < 0 ∨ c.slots.size ≤ j.toNatClampNeg) := by
  have := AJ.sz q
  rw [this]
  rintro (r | r)
  · exact hj r
  · omega
theorem w_iaload (X : Stand p l e R s m args below meth c T locs cells slots) (hx : p.tables.exec = Jvm.exec) (hZ : Z.Warmed39 s.vm) {a : Addr} {vs : List Int32} {j : Int32} {v : Int32} (eT : T.heap = h) (F : AI Z h a .int vs) (hj : ¬ j < 0) (hv : vs[j.toNatClampNeg]? = some v) (hd : decode c.code pc = .ok (.iaload, 1)) (hp : pc + 1 = pc')
    (kk : Go p e below s cm sm Q T (mkF m pc' Ls (Value.int v :: St))) : Go p e below s cm sm Q T (mkF m pc Ls (.int j :: .ref a :: St)) := by
  subst hp
  obtain ⟨cl, A, q, r⟩ := F
  exact Go.st (fun t k => X.iaload hx (j := j) (v := Value.int v) (by rw [eT]; exact A.1) (State.isArrayOf_alike hZ.alike A.2.1) A.2.2 (AI.inb q hj (List.getElem?_eq_some_iff.mp hv).1) (AI.at q hv) (g := mkF m pc Ls (.int j :: .ref a :: St)) rfl rfl hd t k) kk
theorem w_baload (X : Stand p l e R s m args below meth c T locs cells slots) (hx : p.tables.exec = Jvm.exec) (hZ : Z.Warmed39 s.vm) {a : Addr} {vs : List Int32} {j : Int32} {v : Int32} (eT : T.heap = h) (F : AI Z h a .byte vs) (hj : ¬ j < 0) (hv : vs[j.toNatClampNeg]? = some v) (hd : decode c.code pc = .ok (.baload, 1)) (hp : pc + 1 = pc')
    (kk : Go p e below s cm sm Q T (mkF m pc' Ls (Value.int v :: St))) : Go p e below s cm sm Q T (mkF m pc Ls (.int j :: .ref a :: St)) := by
  subst hp
  obtain ⟨cl, A, q, r⟩ := F
  exact Go.st (fun t k => X.baloadBytes hx (j := j) (v := Value.int v) (by rw [eT]; exact A.1) (State.isArrayOf_alike hZ.alike A.2.1) A.2.2 (AI.inb q hj (List.getElem?_eq_some_iff.mp hv).1) (AI.at q hv) (g := mkF m pc Ls (.int j :: .ref a :: St)) rfl rfl hd t k) kk
theorem w_laload (X : Stand p l e R s m args below meth c T locs cells slots) (hx : p.tables.exec = Jvm.exec) (hZ : Z.Warmed39 s.vm) {a : Addr} {vs : List Int64} {j : Int32} {v : Int64} (eT : T.heap = h) (F : AJ Z h a vs) (hj : ¬ j < 0) (hv : vs[j.toNatClampNeg]? = some v) (hd : decode c.code pc = .ok (.laload, 1)) (hp : pc + 1 = pc')
    (kk : Go p e below s cm sm Q T (mkF m pc' Ls (Value.long v :: St))) : Go p e below s cm sm Q T (mkF m pc Ls (.int j :: .ref a :: St)) := by
  subst hp
  obtain ⟨cl, A, q, r⟩ := F
  exact Go.st (fun t k => X.laload hx (j := j) (v := Value.long v) (by rw [eT]; exact A.1) (State.isArrayOf_alike hZ.alike A.2.1) A.2.2 (AJ.inb q hj (List.getElem?_eq_some_iff.mp hv).1) (AJ.at q hv) (g := mkF m pc Ls (.int j :: .ref a :: St)) rfl rfl hd t k) kk
theorem w_iastore (X : Stand p l e R s m args below meth c T locs cells slots) (hx : p.tables.exec = Jvm.exec) (hZ : Z.Warmed39 s.vm) {a : Addr} {vs : List Int32} {j : Int32} {x : Int32} (eT : T.heap = h) (F : AI Z h a .int vs) (hj : ¬ j < 0) (hl : j.toNatClampNeg < vs.length) (hd : decode c.code pc = .ok (.iastore, 1)) (hp : pc + 1 = pc')
    (kk : ∀ (T' : State) (h' : Heap), Stand p l e R s m args below meth c T' (locs ++ [⟨a, j.toNatClampNeg⟩]) cells slots → T'.heap = h' → Wr h h' a j.toNatClampNeg (Value.int x) → AI Z h' a .int (vs.set j.toNatClampNeg x) → Go p e below s cm sm Q T' (mkF m pc' Ls St)) : Go p e below s cm sm Q T (mkF m pc Ls (Value.int x :: .int j :: .ref a :: St)) := by
  subst hp
  obtain ⟨cl, A, q, r⟩ := F
  obtain ⟨T1, h1, X1, e1, W1, st⟩ := RoadKit.stI X hx hZ eT A (j := j) (x := x) (AI.inb q hj hl) (g := mkF m pc Ls (Value.int x :: .int j :: .ref a :: St)) rfl rfl hd
  exact Go.st st (kk _ _ X1 e1 W1 (AI.wr ⟨cl, A, q, r⟩ W1))
theorem w_bastore (X : Stand p l e R s m args below meth c T locs cells slots) (hx : p.tables.exec = Jvm.exec) (hZ : Z.Warmed39 s.vm) {a : Addr} {vs : List Int32} {j : Int32} {x : Int32} (eT : T.heap = h) (F : AI Z h a .byte vs) (hj : ¬ j < 0) (hl : j.toNatClampNeg < vs.length) (hd : decode c.code pc = .ok (.bastore, 1)) (hp : pc + 1 = pc')
    (kk : ∀ (T' : State) (h' : Heap), Stand p l e R s m args below meth c T' (locs ++ [⟨a, j.toNatClampNeg⟩]) cells slots → T'.heap = h' → Wr h h' a j.toNatClampNeg (Value.int (nar .byte x)) → AI Z h' a .byte (vs.set j.toNatClampNeg (nar .byte x)) → Go p e below s cm sm Q T' (mkF m pc' Ls St)) : Go p e below s cm sm Q T (mkF m pc Ls (Value.int x :: .int j :: .ref a :: St)) := by
  subst hp
  obtain ⟨cl, A, q, r⟩ := F
  obtain ⟨T1, h1, X1, e1, W1, st⟩ := RoadKit.stB X hx hZ eT A (j := j) (x := x) (AI.inb q hj hl) (g := mkF m pc Ls (Value.int x :: .int j :: .ref a :: St)) rfl rfl hd
  exact Go.st st (kk _ _ X1 e1 W1 (AI.wr ⟨cl, A, q, r⟩ W1))
theorem w_lastore (X : Stand p l e R s m args below meth c T locs cells slots) (hx : p.tables.exec = Jvm.exec) (hZ : Z.Warmed39 s.vm) {a : Addr} {vs : List Int64} {j : Int32} {x : Int64} (eT : T.heap = h) (F : AJ Z h a vs) (hj : ¬ j < 0) (hl : j.toNatClampNeg < vs.length) (hd : decode c.code pc = .ok (.lastore, 1)) (hp : pc + 1 = pc')
    (kk : ∀ (T' : State) (h' : Heap), Stand p l e R s m args below meth c T' (locs ++ [⟨a, j.toNatClampNeg⟩]) cells slots → T'.heap = h' → Wr h h' a j.toNatClampNeg (Value.long x) → AJ Z h' a (vs.set j.toNatClampNeg x) → Go p e below s cm sm Q T' (mkF m pc' Ls St)) : Go p e below s cm sm Q T (mkF m pc Ls (Value.long x :: .int j :: .ref a :: St)) := by
  subst hp
  obtain ⟨cl, A, q, r⟩ := F
  obtain ⟨T1, h1, X1, e1, W1, st⟩ := RoadKit.stJ X hx hZ eT A (j := j) (x := x) (AJ.inb q hj hl) (g := mkF m pc Ls (Value.long x :: .int j :: .ref a :: St)) rfl rfl hd
  exact Go.st st (kk _ _ X1 e1 W1 (AJ.wr ⟨cl, A, q, r⟩ W1))
theorem w_alenI (X : Stand p l e R s m args below meth c T locs cells slots) (hx : p.tables.exec = Jvm.exec) (hZ : Z.Warmed39 s.vm) {a : Addr} {ty : FieldType} {vs : List Int32} {n : Int32} (eT : T.heap = h) (F : AI Z h a ty vs) (hn : vs.length.toInt32 = n) (hd : decode c.code pc = .ok (.arraylength, 1)) (hp : pc + 1 = pc')
    (kk : Go p e below s cm sm Q T (mkF m pc' Ls (.int n :: St))) : Go p e below s cm sm Q T (mkF m pc Ls (.ref a :: St)) := by
  subst hp hn
  obtain ⟨cl, A, q, r⟩ := F
  have hs := AI.sz q
  exact Go.st (fun t k => X.arraylength hx (by rw [eT]; exact A.1) (State.isArrayOf_alike hZ.alike A.2.1) (g := mkF m pc Ls (.ref a :: St)) rfl rfl hd t (by rw [hs]; exact k)) kk
theorem w_alenJ (X : Stand p l e R s m args below meth c T locs cells slots) (hx : p.tables.exec = Jvm.exec) (hZ : Z.Warmed39 s.vm) {a : Addr} {vs : List Int64} {n : Int32} (eT : T.heap = h) (F : AJ Z h a vs) (hn : vs.length.toInt32 = n) (hd : decode c.code pc = .ok (.arraylength, 1)) (hp : pc + 1 = pc')
    (kk : Go p e below s cm sm Q T (mkF m pc' Ls (.int n :: St))) : Go p e below s cm sm Q T (mkF m pc Ls (.ref a :: St)) := by
  subst hp hn
  obtain ⟨cl, A, q, r⟩ := F
  have hs := AJ.sz q
  exact Go.st (fun t k => X.arraylength hx (by rw [eT]; exact A.1) (State.isArrayOf_alike hZ.alike A.2.1) (g := mkF m pc Ls (.ref a :: St)) rfl rfl hd t (by rw [hs]; exact k)) kk
theorem w_newI (X : Stand p l e R s m args below meth c T locs cells slots) (hx : p.tables.exec = Jvm.exec) (hZ : Z.Warmed39 s.vm) {n : Int32} {cap : Nat} (eT : T.heap = h) (w : (Jvm.Cond.arrayClass .int).before a0 Z = true) (hn : ¬ n < 0) (hcap : n.toNatClampNeg ≤ cap) (hb : cap * 8 ≤ 536870912) (hc : cells + 1 ≤ R.cells) (hl : slots + cap ≤ R.slots) (hd : decode c.code pc = .ok (.newarray .int, 2)) (hp : pc + 2 = pc')
    (kk : ∀ (T' : State) (h' : Heap) (b : Addr), Stand p l e R s m args below meth c T' locs (cells + 1) (slots + cap) → T'.heap = h' → Ext h h' → b = h.size → AI Z h' b .int (List.replicate n.toNatClampNeg 0) → Go p e below s cm sm Q T' (mkF m pc' Ls (.ref b :: St))) : Go p e below s cm sm Q T (mkF m pc Ls (.int n :: St)) := by
  subst hp
  obtain ⟨T1, h1, k1, X1, e1, E1, A1, st⟩ := newP X hx hZ (aty := .int) w eT (g := mkF m pc Ls (.int n :: St)) rfl hd rfl hn (cap := cap) hcap hb hc hl
  exact Go.st st (kk _ _ _ X1 e1 E1 rfl (AI.new A1 rfl))
theorem w_newB (X : Stand p l e R s m args below meth c T locs cells slots) (hx : p.tables.exec = Jvm.exec) (hZ : Z.Warmed39 s.vm) {n : Int32} {cap : Nat} (eT : T.heap = h) (w : (Jvm.Cond.arrayClass .byte).before a0 Z = true) (hn : ¬ n < 0) (hcap : n.toNatClampNeg ≤ cap) (hb : cap * 8 ≤ 536870912) (hc : cells + 1 ≤ R.cells) (hl : slots + cap ≤ R.slots) (hd : decode c.code pc = .ok (.newarray .byte, 2)) (hp : pc + 2 = pc')
    (kk : ∀ (T' : State) (h' : Heap) (b : Addr), Stand p l e R s m args below meth c T' locs (cells + 1) (slots + cap) → T'.heap = h' → Ext h h' → b = h.size → AI Z h' b .byte (List.replicate n.toNatClampNeg 0) → Go p e below s cm sm Q T' (mkF m pc' Ls (.ref b :: St))) : Go p e below s cm sm Q T (mkF m pc Ls (.int n :: St)) := by
  subst hp
  obtain ⟨T1, h1, k1, X1, e1, E1, A1, st⟩ := newP X hx hZ (aty := .byte) w eT (g := mkF m pc Ls (.int n :: St)) rfl hd rfl hn (cap := cap) hcap hb hc hl
  exact Go.st st (kk _ _ _ X1 e1 E1 rfl (AI.new A1 rfl))
theorem w_newJ (X : Stand p l e R s m args below meth c T locs cells slots) (hx : p.tables.exec = Jvm.exec) (hZ : Z.Warmed39 s.vm) {n : Int32} {cap : Nat} (eT : T.heap = h) (w : (Jvm.Cond.arrayClass .long).before a0 Z = true) (hn : ¬ n < 0) (hcap : n.toNatClampNeg ≤ cap) (hb : cap * 8 ≤ 536870912) (hc : cells + 1 ≤ R.cells) (hl : slots + cap ≤ R.slots) (hd : decode c.code pc = .ok (.newarray .long, 2)) (hp : pc + 2 = pc')
    (kk : ∀ (T' : State) (h' : Heap) (b : Addr), Stand p l e R s m args below meth c T' locs (cells + 1) (slots + cap) → T'.heap = h' → Ext h h' → b = h.size → AJ Z h' b (List.replicate n.toNatClampNeg 0) → Go p e below s cm sm Q T' (mkF m pc' Ls (.ref b :: St))) : Go p e below s cm sm Q T (mkF m pc Ls (.int n :: St)) := by
  subst hp
  obtain ⟨T1, h1, k1, X1, e1, E1, A1, st⟩ := newP X hx hZ (aty := .long) w eT (g := mkF m pc Ls (.int n :: St)) rfl hd rfl hn (cap := cap) hcap hb hc hl
  exact Go.st st (kk _ _ _ X1 e1 E1 rfl (AJ.new A1))
theorem w_callP (X : Stand p l e R s m args below meth c T locs cells slots) (hx : p.tables.exec = Jvm.exec) (hZ : Z.Warmed39 s.vm) {own : String} {index : Nat} {y : MethodName} {bytes : ByteArray} {maxL : Nat} {ret : Option FieldType} {rm : Room} {W : Nat} {argsL rest : List Value} {Qc : Option Value → Heap → List Loc → Prop} {a : Addr} (hown : s.vm.findClass own = some m.cls) (eT : T.heap = h) (E : Exa Z h a y.cls) (C : Con l Z y bytes maxL ret rm (.ref a :: argsL).toArray h Qc) (w1 : (Jvm.Cond.methodLink own index y).before a0 Z = true) (w2 : (Jvm.Cond.instanceMethod y).before a0 Z = true) (ws : (Jvm.Cond.selects y.cls y y).before a0 Z = true) (wp : (Jvm.Cond.privateMethod y).before a0 Z = true) (w3 : (Jvm.Cond.initialized y.cls).before a0 Z = true) (w4 : (Jvm.Cond.code y bytes maxL ret).before a0 Z = true) (hy : y.cls ≠ "java/lang/invoke/MethodHandle" ∧ y.cls ≠ "java/lang/invoke/VarHandle")
    (hf : rm.frames + 1 ≤ R.frames) (hl : W + (maxL + 11) + rm.locals ≤ R.locals) (hc : cells + rm.cells ≤ R.cells) (hs : slots + rm.slots ≤ R.slots) (hsz : Ls.size = c.maxLocals) (hlen : ∀ sig, parseMethodDescriptor y.desc = some sig → argsL.length = sig.parameters.length) (hW : (rest.map fun v => v.category).sum ≤ W) (hst : St = argsL.reverse ++ .ref a :: rest) (hd : decode c.code pc = .ok (.invokevirtual index, 3)) (hp : pc + 3 = pc')
    (kk : ∀ (T' : State) (L : List Loc) (v : Option Value), Stand p l e R s m args below meth c T' (locs ++ L) (cells + rm.cells) (slots + rm.slots) → Qc v T'.heap L → Go p e below s cm sm Q T' (mkF m pc' Ls (v.toList ++ rest))) : Go p e below s cm sm Q T (mkF m pc Ls St) := by
  subst hp hst
  obtain ⟨cq, q1, q2⟩ := E.cell
  obtain ⟨v, _, ⟨T1, L1, k1, n1⟩, -, X1, ⟨Lc, hQ, l1, y1, z1⟩, st⟩ := X.privateBack hx (y := y) hown (mvT hZ w1) (mvT hZ w2) (mvT hZ ws) (Cond.privateMethod_at (mvP hZ wp (args := #[]))) (mvT hZ w4) hy (C.back (W := W) hZ w4 w3 hf hl) (g := mkF m pc Ls (argsL.reverse ++ .ref a :: rest)) rfl hsz (Steps.refl _) (a := a) (by rw [eT]; exact q1) q2 (argsL := argsL) (rest := rest) hlen rfl (by show 2 * 0 + _ ≤ _; rw [Nat.mul_zero, Nat.zero_add]; exact hW) hd (fun _ _ => ⟨rfl, eT, hc, hs⟩)
  dsimp only [Pt.U, Pt.locs, Pt.cells, Pt.slots] at X1 l1 y1 z1 st hQ
  subst l1 y1 z1
  exact Go.st (fun t q => st.trans q) (kk _ _ _ X1 hQ)
theorem w_ifnullNo (X : Stand p l e R s m args below meth c T locs cells slots) (hx : p.tables.exec = Jvm.exec) {o : Int} {b : Addr} (hd : decode c.code pc = .ok (.ifnull o, 3)) (hp : pc + 3 = pc') (kk : Go p e below s cm sm Q T (mkF m pc' Ls St)) : Go p e below s cm sm Q T (mkF m pc Ls (.ref b :: St)) := by
  subst hp
  exact Go.st (fun t q => XS.ifnullNo (g := mkF m pc Ls (.ref b :: St)) X.here hx rfl hd rfl q) kk
theorem own_len {n k : Nat} (h : n < 2147483648) (hk : k < 2147483648) (hc : ¬ n.toInt32 < k.toInt32) : k ≤ n := by
  rw [Int32.lt_iff_toInt_lt, len_toInt h, len_toInt hk] at hc
  omega
theorem own_len' {n k : Nat} (h : n < 2147483648) (hk : k < 2147483648) (hc : n.toInt32 < k.toInt32) : n < k := by
  rw [Int32.lt_iff_toInt_lt, len_toInt h, len_toInt hk] at hc
  omega
theorem own_getD {α : Type} {vs : List α} {j : Nat} {d : α} (h : j < vs.length) : vs[j]? = some (vs.getD j d) := by simp [h]
theorem own_nar0 : nar .boolean 0 = 0 := by decide
theorem own_nar1 : nar .boolean 1 = 1 := by decide
theorem w_up {c' s' : Nat} (X : Stand p l e R s m args below meth c T locs cells slots) (h1 : cells ≤ c') (h2 : slots ≤ s') : Stand p l e R s m args below meth c T locs c' s' :=
  ⟨X.admits, X.cas, X.clock, X.frames, X.room, X.hears, X.method, X.code, X.here, X.tail, X.warmed, X.limits, X.bytes, X.same.mono h1 h2⟩
end OwnKit
theorem pd_0 : parseMethodDescriptor "(I)Z" = some ⟨[.int], some .boolean⟩ := by decide +kernel
theorem d1_0 : decode prog_51_method_4_code 0 = .ok (.iload_n 0, 1) := by decide +kernel
theorem d1_1 : decode prog_51_method_4_code 1 = .ok (.sipush 128, 3) := by decide +kernel
theorem d1_4 : decode prog_51_method_4_code 4 = .ok (.if_icmp .ge 48, 3) := by decide +kernel
theorem d1_7 : decode prog_51_method_4_code 7 = .ok (.iload_n 0, 1) := by decide +kernel
theorem d1_8 : decode prog_51_method_4_code 8 = .ok (.bipush 97, 2) := by decide +kernel
theorem d1_10 : decode prog_51_method_4_code 10 = .ok (.if_icmp .lt 9, 3) := by decide +kernel
theorem d1_13 : decode prog_51_method_4_code 13 = .ok (.iload_n 0, 1) := by decide +kernel
theorem d1_14 : decode prog_51_method_4_code 14 = .ok (.bipush 122, 2) := by decide +kernel
theorem d1_16 : decode prog_51_method_4_code 16 = .ok (.if_icmp .le 27, 3) := by decide +kernel
theorem d1_19 : decode prog_51_method_4_code 19 = .ok (.iload_n 0, 1) := by decide +kernel
theorem d1_20 : decode prog_51_method_4_code 20 = .ok (.bipush 65, 2) := by decide +kernel
theorem d1_22 : decode prog_51_method_4_code 22 = .ok (.if_icmp .lt 9, 3) := by decide +kernel
theorem d1_25 : decode prog_51_method_4_code 25 = .ok (.iload_n 0, 1) := by decide +kernel
theorem d1_26 : decode prog_51_method_4_code 26 = .ok (.bipush 90, 2) := by decide +kernel
theorem d1_28 : decode prog_51_method_4_code 28 = .ok (.if_icmp .le 15, 3) := by decide +kernel
theorem d1_31 : decode prog_51_method_4_code 31 = .ok (.iload_n 0, 1) := by decide +kernel
theorem d1_32 : decode prog_51_method_4_code 32 = .ok (.bipush 95, 2) := by decide +kernel
theorem d1_34 : decode prog_51_method_4_code 34 = .ok (.if_icmp .eq 9, 3) := by decide +kernel
theorem d1_37 : decode prog_51_method_4_code 37 = .ok (.iload_n 0, 1) := by decide +kernel
theorem d1_38 : decode prog_51_method_4_code 38 = .ok (.bipush 58, 2) := by decide +kernel
theorem d1_40 : decode prog_51_method_4_code 40 = .ok (.if_icmp .ne 7, 3) := by decide +kernel
theorem d1_43 : decode prog_51_method_4_code 43 = .ok (.iconst 1, 1) := by decide +kernel
theorem d1_44 : decode prog_51_method_4_code 44 = .ok (.goto 4, 3) := by decide +kernel
theorem d1_47 : decode prog_51_method_4_code 47 = .ok (.iconst 0, 1) := by decide +kernel
theorem d1_48 : decode prog_51_method_4_code 48 = .ok (.istore_n 1, 1) := by decide +kernel
theorem d1_49 : decode prog_51_method_4_code 49 = .ok (.goto 170, 3) := by decide +kernel
theorem d1_52 : decode prog_51_method_4_code 52 = .ok (.iload_n 0, 1) := by decide +kernel
theorem d1_53 : decode prog_51_method_4_code 53 = .ok (.sipush 192, 3) := by decide +kernel
theorem d1_56 : decode prog_51_method_4_code 56 = .ok (.if_icmp .lt 10, 3) := by decide +kernel
theorem d1_59 : decode prog_51_method_4_code 59 = .ok (.iload_n 0, 1) := by decide +kernel
theorem d1_60 : decode prog_51_method_4_code 60 = .ok (.sipush 214, 3) := by decide +kernel
theorem d1_63 : decode prog_51_method_4_code 63 = .ok (.if_icmp .le 150, 3) := by decide +kernel
theorem d1_66 : decode prog_51_method_4_code 66 = .ok (.iload_n 0, 1) := by decide +kernel
theorem d1_67 : decode prog_51_method_4_code 67 = .ok (.sipush 216, 3) := by decide +kernel
theorem d1_70 : decode prog_51_method_4_code 70 = .ok (.if_icmp .lt 10, 3) := by decide +kernel
theorem d1_73 : decode prog_51_method_4_code 73 = .ok (.iload_n 0, 1) := by decide +kernel
theorem d1_74 : decode prog_51_method_4_code 74 = .ok (.sipush 246, 3) := by decide +kernel
theorem d1_77 : decode prog_51_method_4_code 77 = .ok (.if_icmp .le 136, 3) := by decide +kernel
theorem d1_80 : decode prog_51_method_4_code 80 = .ok (.iload_n 0, 1) := by decide +kernel
theorem d1_81 : decode prog_51_method_4_code 81 = .ok (.sipush 248, 3) := by decide +kernel
theorem d1_84 : decode prog_51_method_4_code 84 = .ok (.if_icmp .lt 10, 3) := by decide +kernel
theorem d1_87 : decode prog_51_method_4_code 87 = .ok (.iload_n 0, 1) := by decide +kernel
theorem d1_88 : decode prog_51_method_4_code 88 = .ok (.sipush 767, 3) := by decide +kernel
theorem d1_91 : decode prog_51_method_4_code 91 = .ok (.if_icmp .le 122, 3) := by decide +kernel
theorem d1_94 : decode prog_51_method_4_code 94 = .ok (.iload_n 0, 1) := by decide +kernel
theorem d1_95 : decode prog_51_method_4_code 95 = .ok (.sipush 880, 3) := by decide +kernel
theorem d1_98 : decode prog_51_method_4_code 98 = .ok (.if_icmp .lt 10, 3) := by decide +kernel
theorem d1_101 : decode prog_51_method_4_code 101 = .ok (.iload_n 0, 1) := by decide +kernel
theorem d1_102 : decode prog_51_method_4_code 102 = .ok (.sipush 893, 3) := by decide +kernel
theorem d1_105 : decode prog_51_method_4_code 105 = .ok (.if_icmp .le 108, 3) := by decide +kernel
theorem d1_108 : decode prog_51_method_4_code 108 = .ok (.iload_n 0, 1) := by decide +kernel
theorem d1_109 : decode prog_51_method_4_code 109 = .ok (.sipush 895, 3) := by decide +kernel
theorem d1_112 : decode prog_51_method_4_code 112 = .ok (.if_icmp .lt 10, 3) := by decide +kernel
theorem d1_115 : decode prog_51_method_4_code 115 = .ok (.iload_n 0, 1) := by decide +kernel
theorem d1_116 : decode prog_51_method_4_code 116 = .ok (.sipush 8191, 3) := by decide +kernel
theorem d1_119 : decode prog_51_method_4_code 119 = .ok (.if_icmp .le 94, 3) := by decide +kernel
theorem d1_122 : decode prog_51_method_4_code 122 = .ok (.iload_n 0, 1) := by decide +kernel
theorem d1_123 : decode prog_51_method_4_code 123 = .ok (.sipush 8204, 3) := by decide +kernel
theorem d1_126 : decode prog_51_method_4_code 126 = .ok (.if_icmp .eq 87, 3) := by decide +kernel
theorem d1_129 : decode prog_51_method_4_code 129 = .ok (.iload_n 0, 1) := by decide +kernel
theorem d1_130 : decode prog_51_method_4_code 130 = .ok (.sipush 8205, 3) := by decide +kernel
theorem d1_133 : decode prog_51_method_4_code 133 = .ok (.if_icmp .eq 80, 3) := by decide +kernel
theorem d1_136 : decode prog_51_method_4_code 136 = .ok (.iload_n 0, 1) := by decide +kernel
theorem d1_137 : decode prog_51_method_4_code 137 = .ok (.sipush 8304, 3) := by decide +kernel
theorem d1_140 : decode prog_51_method_4_code 140 = .ok (.if_icmp .lt 10, 3) := by decide +kernel
theorem d1_143 : decode prog_51_method_4_code 143 = .ok (.iload_n 0, 1) := by decide +kernel
theorem d1_144 : decode prog_51_method_4_code 144 = .ok (.sipush 8591, 3) := by decide +kernel
theorem d1_147 : decode prog_51_method_4_code 147 = .ok (.if_icmp .le 66, 3) := by decide +kernel
theorem d1_150 : decode prog_51_method_4_code 150 = .ok (.iload_n 0, 1) := by decide +kernel
theorem d1_151 : decode prog_51_method_4_code 151 = .ok (.sipush 11264, 3) := by decide +kernel
theorem d1_154 : decode prog_51_method_4_code 154 = .ok (.if_icmp .lt 10, 3) := by decide +kernel
theorem d1_157 : decode prog_51_method_4_code 157 = .ok (.iload_n 0, 1) := by decide +kernel
theorem d1_158 : decode prog_51_method_4_code 158 = .ok (.sipush 12271, 3) := by decide +kernel
theorem d1_161 : decode prog_51_method_4_code 161 = .ok (.if_icmp .le 52, 3) := by decide +kernel
theorem d1_164 : decode prog_51_method_4_code 164 = .ok (.iload_n 0, 1) := by decide +kernel
theorem d1_165 : decode prog_51_method_4_code 165 = .ok (.sipush 12289, 3) := by decide +kernel
theorem d1_168 : decode prog_51_method_4_code 168 = .ok (.if_icmp .lt 9, 3) := by decide +kernel
theorem d1_171 : decode prog_51_method_4_code 171 = .ok (.iload_n 0, 1) := by decide +kernel
theorem d1_172 : decode prog_51_method_4_code 172 = .ok (.ldc 7, 2) := by decide +kernel
theorem d1_174 : decode prog_51_method_4_code 174 = .ok (.if_icmp .le 39, 3) := by decide +kernel
theorem d1_177 : decode prog_51_method_4_code 177 = .ok (.iload_n 0, 1) := by decide +kernel
theorem d1_178 : decode prog_51_method_4_code 178 = .ok (.ldc 14, 2) := by decide +kernel
theorem d1_180 : decode prog_51_method_4_code 180 = .ok (.if_icmp .lt 9, 3) := by decide +kernel
theorem d1_183 : decode prog_51_method_4_code 183 = .ok (.iload_n 0, 1) := by decide +kernel
theorem d1_184 : decode prog_51_method_4_code 184 = .ok (.ldc 15, 2) := by decide +kernel
theorem d1_186 : decode prog_51_method_4_code 186 = .ok (.if_icmp .le 27, 3) := by decide +kernel
theorem d1_189 : decode prog_51_method_4_code 189 = .ok (.iload_n 0, 1) := by decide +kernel
theorem d1_190 : decode prog_51_method_4_code 190 = .ok (.ldc 16, 2) := by decide +kernel
theorem d1_192 : decode prog_51_method_4_code 192 = .ok (.if_icmp .lt 9, 3) := by decide +kernel
theorem d1_195 : decode prog_51_method_4_code 195 = .ok (.iload_n 0, 1) := by decide +kernel
theorem d1_196 : decode prog_51_method_4_code 196 = .ok (.ldc 9, 2) := by decide +kernel
theorem d1_198 : decode prog_51_method_4_code 198 = .ok (.if_icmp .le 15, 3) := by decide +kernel
theorem d1_201 : decode prog_51_method_4_code 201 = .ok (.iload_n 0, 1) := by decide +kernel
theorem d1_202 : decode prog_51_method_4_code 202 = .ok (.ldc 10, 2) := by decide +kernel
theorem d1_204 : decode prog_51_method_4_code 204 = .ok (.if_icmp .lt 13, 3) := by decide +kernel
theorem d1_207 : decode prog_51_method_4_code 207 = .ok (.iload_n 0, 1) := by decide +kernel
theorem d1_208 : decode prog_51_method_4_code 208 = .ok (.ldc 17, 2) := by decide +kernel
theorem d1_210 : decode prog_51_method_4_code 210 = .ok (.if_icmp .gt 7, 3) := by decide +kernel
theorem d1_213 : decode prog_51_method_4_code 213 = .ok (.iconst 1, 1) := by decide +kernel
theorem d1_214 : decode prog_51_method_4_code 214 = .ok (.goto 4, 3) := by decide +kernel
theorem d1_217 : decode prog_51_method_4_code 217 = .ok (.iconst 0, 1) := by decide +kernel
theorem d1_218 : decode prog_51_method_4_code 218 = .ok (.istore_n 1, 1) := by decide +kernel
theorem d1_219 : decode prog_51_method_4_code 219 = .ok (.iload_n 1, 1) := by decide +kernel
theorem d1_220 : decode prog_51_method_4_code 220 = .ok (.ireturn, 1) := by decide +kernel
def K1_201 (x0 : Int32) : Int32 :=
  (if x0 < (65536 : Int32) then (0 : Int32)
  else (if (983039 : Int32) < x0 then (0 : Int32)
   else (1 : Int32)))
set_option maxRecDepth 65536 in
set_option maxHeartbeats 4000000 in
theorem bk1_201 {p : Program} {l : Launch} {e : Env} {s : State} {m : MethodId} {args : Array Value} {below : List Frame} {meth : Method} {c : Code} {T : State} {locs : List Loc} {Z : State} {a0 : Array Value} {h0 : Heap} {n0 : Nat} (X : Stand p l e ({ frames := 0, cells := 0, slots := 0, locals := 0 } : Room) s m args below meth c T locs 0 0) (hx : p.tables.exec = Jvm.exec) (hZ : Z.Warmed39 s.vm) (hw : ∀ d ∈ tables_1, d.before a0 Z = true) (hby : c.code = prog_51_method_4_code) (hml : c.maxLocals = 2) (hown : s.vm.findClass "com/example/corelint/corelint/XmlChars" = some m.cls) (hret : meth.sig.returnType = (some .boolean)) (hlk : meth.locks = false) (e0 : T.heap = h0) (N0 : Fr n0 locs) (x0 : Int32) :
    Go p e below s 0 0 (QP (some (.int (K1_201 x0))) h0 n0) T (mkF m 201 #[.val (.int x0), .unset] []) := by
  rw [K1_201]
  refine w_iloadN X hx (hb hby d1_201) (pc' := 202) rfl rfl ?_
  refine w_ldc X hx hZ hown (hw _ (List.mem_of_getElem? (i := 20) rfl)) (hb hby d1_202) (pc' := 204) rfl ?_
  refine w_icmp_lt X hx (hb hby d1_204) (pf := 207) (pt := 217) rfl (by decide) (by decide) (fun hc204 => ?_) (fun hc204 => ?_)
  · rw [if_pos hc204]
    refine w_iconst (v := 0) X hx (hb hby d1_217) (pc' := 218) rfl rfl ?_
    refine w_istoreN (Ls' := #[.val (.int x0), .val (.int (0 : Int32))]) X hx (hb hby d1_218) (pc' := 219) rfl rfl ?_
    refine w_iloadN X hx (hb hby d1_219) (pc' := 220) rfl rfl ?_
    exact w_retZ X hx hret hlk (hb hby d1_220) (by decide) (by decide) ⟨rfl, N0, e0⟩
  · rw [if_neg hc204]
    refine w_iloadN X hx (hb hby d1_207) (pc' := 208) rfl rfl ?_
    refine w_ldc X hx hZ hown (hw _ (List.mem_of_getElem? (i := 21) rfl)) (hb hby d1_208) (pc' := 210) rfl ?_
    refine w_icmp_gt X hx (hb hby d1_210) (pf := 213) (pt := 217) rfl (by decide) (by decide) (fun hc210 => ?_) (fun hc210 => ?_)
    · rw [if_pos hc210]
      refine w_iconst (v := 0) X hx (hb hby d1_217) (pc' := 218) rfl rfl ?_
      refine w_istoreN (Ls' := #[.val (.int x0), .val (.int (0 : Int32))]) X hx (hb hby d1_218) (pc' := 219) rfl rfl ?_
      refine w_iloadN X hx (hb hby d1_219) (pc' := 220) rfl rfl ?_
      exact w_retZ X hx hret hlk (hb hby d1_220) (by decide) (by decide) ⟨rfl, N0, e0⟩
    · rw [if_neg hc210]
      refine w_iconst (v := 1) X hx (hb hby d1_213) (pc' := 214) rfl rfl ?_
      refine w_goto X hx (hb hby d1_214) (pc' := 218) (by decide) (by decide) ?_
      refine w_istoreN (Ls' := #[.val (.int x0), .val (.int (1 : Int32))]) X hx (hb hby d1_218) (pc' := 219) rfl rfl ?_
      refine w_iloadN X hx (hb hby d1_219) (pc' := 220) rfl rfl ?_
      exact w_retZ X hx hret hlk (hb hby d1_220) (by decide) (by decide) ⟨rfl, N0, e0⟩
def K1_189 (x0 : Int32) : Int32 :=
  (if x0 < (65008 : Int32) then (K1_201 x0)
  else (if (65533 : Int32) < x0 then (K1_201 x0)
   else (1 : Int32)))
set_option maxRecDepth 65536 in
set_option maxHeartbeats 4000000 in
theorem bk1_189 {p : Program} {l : Launch} {e : Env} {s : State} {m : MethodId} {args : Array Value} {below : List Frame} {meth : Method} {c : Code} {T : State} {locs : List Loc} {Z : State} {a0 : Array Value} {h0 : Heap} {n0 : Nat} (X : Stand p l e ({ frames := 0, cells := 0, slots := 0, locals := 0 } : Room) s m args below meth c T locs 0 0) (hx : p.tables.exec = Jvm.exec) (hZ : Z.Warmed39 s.vm) (hw : ∀ d ∈ tables_1, d.before a0 Z = true) (hby : c.code = prog_51_method_4_code) (hml : c.maxLocals = 2) (hown : s.vm.findClass "com/example/corelint/corelint/XmlChars" = some m.cls) (hret : meth.sig.returnType = (some .boolean)) (hlk : meth.locks = false) (e0 : T.heap = h0) (N0 : Fr n0 locs) (x0 : Int32) :
    Go p e below s 0 0 (QP (some (.int (K1_189 x0))) h0 n0) T (mkF m 189 #[.val (.int x0), .unset] []) := by
  rw [K1_189]
  refine w_iloadN X hx (hb hby d1_189) (pc' := 190) rfl rfl ?_
  refine w_ldc X hx hZ hown (hw _ (List.mem_of_getElem? (i := 18) rfl)) (hb hby d1_190) (pc' := 192) rfl ?_
  refine w_icmp_lt X hx (hb hby d1_192) (pf := 195) (pt := 201) rfl (by decide) (by decide) (fun hc192 => ?_) (fun hc192 => ?_)
  · rw [if_pos hc192]
    exact bk1_201 X hx hZ hw hby hml hown hret hlk e0 N0 x0
  · rw [if_neg hc192]
    refine w_iloadN X hx (hb hby d1_195) (pc' := 196) rfl rfl ?_
    refine w_ldc X hx hZ hown (hw _ (List.mem_of_getElem? (i := 19) rfl)) (hb hby d1_196) (pc' := 198) rfl ?_
    refine w_icmp_le X hx (hb hby d1_198) (pf := 201) (pt := 213) rfl (by decide) (by decide) (fun hc198 => ?_) (fun hc198 => ?_)
    · rw [if_neg hc198]
      refine w_iconst (v := 1) X hx (hb hby d1_213) (pc' := 214) rfl rfl ?_
      refine w_goto X hx (hb hby d1_214) (pc' := 218) (by decide) (by decide) ?_
      refine w_istoreN (Ls' := #[.val (.int x0), .val (.int (1 : Int32))]) X hx (hb hby d1_218) (pc' := 219) rfl rfl ?_
      refine w_iloadN X hx (hb hby d1_219) (pc' := 220) rfl rfl ?_
      exact w_retZ X hx hret hlk (hb hby d1_220) (by decide) (by decide) ⟨rfl, N0, e0⟩
    · rw [if_pos hc198]
      exact bk1_201 X hx hZ hw hby hml hown hret hlk e0 N0 x0
def K1_177 (x0 : Int32) : Int32 :=
  (if x0 < (63744 : Int32) then (K1_189 x0)
  else (if (64975 : Int32) < x0 then (K1_189 x0)
   else (1 : Int32)))
set_option maxRecDepth 65536 in
set_option maxHeartbeats 4000000 in
theorem bk1_177 {p : Program} {l : Launch} {e : Env} {s : State} {m : MethodId} {args : Array Value} {below : List Frame} {meth : Method} {c : Code} {T : State} {locs : List Loc} {Z : State} {a0 : Array Value} {h0 : Heap} {n0 : Nat} (X : Stand p l e ({ frames := 0, cells := 0, slots := 0, locals := 0 } : Room) s m args below meth c T locs 0 0) (hx : p.tables.exec = Jvm.exec) (hZ : Z.Warmed39 s.vm) (hw : ∀ d ∈ tables_1, d.before a0 Z = true) (hby : c.code = prog_51_method_4_code) (hml : c.maxLocals = 2) (hown : s.vm.findClass "com/example/corelint/corelint/XmlChars" = some m.cls) (hret : meth.sig.returnType = (some .boolean)) (hlk : meth.locks = false) (e0 : T.heap = h0) (N0 : Fr n0 locs) (x0 : Int32) :
    Go p e below s 0 0 (QP (some (.int (K1_177 x0))) h0 n0) T (mkF m 177 #[.val (.int x0), .unset] []) := by
  rw [K1_177]
  refine w_iloadN X hx (hb hby d1_177) (pc' := 178) rfl rfl ?_
  refine w_ldc X hx hZ hown (hw _ (List.mem_of_getElem? (i := 16) rfl)) (hb hby d1_178) (pc' := 180) rfl ?_
  refine w_icmp_lt X hx (hb hby d1_180) (pf := 183) (pt := 189) rfl (by decide) (by decide) (fun hc180 => ?_) (fun hc180 => ?_)
  · rw [if_pos hc180]
    exact bk1_189 X hx hZ hw hby hml hown hret hlk e0 N0 x0
  · rw [if_neg hc180]
    refine w_iloadN X hx (hb hby d1_183) (pc' := 184) rfl rfl ?_
    refine w_ldc X hx hZ hown (hw _ (List.mem_of_getElem? (i := 17) rfl)) (hb hby d1_184) (pc' := 186) rfl ?_
    refine w_icmp_le X hx (hb hby d1_186) (pf := 189) (pt := 213) rfl (by decide) (by decide) (fun hc186 => ?_) (fun hc186 => ?_)
    · rw [if_neg hc186]
      refine w_iconst (v := 1) X hx (hb hby d1_213) (pc' := 214) rfl rfl ?_
      refine w_goto X hx (hb hby d1_214) (pc' := 218) (by decide) (by decide) ?_
      refine w_istoreN (Ls' := #[.val (.int x0), .val (.int (1 : Int32))]) X hx (hb hby d1_218) (pc' := 219) rfl rfl ?_
      refine w_iloadN X hx (hb hby d1_219) (pc' := 220) rfl rfl ?_
      exact w_retZ X hx hret hlk (hb hby d1_220) (by decide) (by decide) ⟨rfl, N0, e0⟩
    · rw [if_pos hc186]
      exact bk1_189 X hx hZ hw hby hml hown hret hlk e0 N0 x0
def K1_164 (x0 : Int32) : Int32 :=
  (if x0 < (12289 : Int32) then (K1_177 x0)
  else (if (55295 : Int32) < x0 then (K1_177 x0)
   else (1 : Int32)))
set_option maxRecDepth 65536 in
set_option maxHeartbeats 4000000 in
theorem bk1_164 {p : Program} {l : Launch} {e : Env} {s : State} {m : MethodId} {args : Array Value} {below : List Frame} {meth : Method} {c : Code} {T : State} {locs : List Loc} {Z : State} {a0 : Array Value} {h0 : Heap} {n0 : Nat} (X : Stand p l e ({ frames := 0, cells := 0, slots := 0, locals := 0 } : Room) s m args below meth c T locs 0 0) (hx : p.tables.exec = Jvm.exec) (hZ : Z.Warmed39 s.vm) (hw : ∀ d ∈ tables_1, d.before a0 Z = true) (hby : c.code = prog_51_method_4_code) (hml : c.maxLocals = 2) (hown : s.vm.findClass "com/example/corelint/corelint/XmlChars" = some m.cls) (hret : meth.sig.returnType = (some .boolean)) (hlk : meth.locks = false) (e0 : T.heap = h0) (N0 : Fr n0 locs) (x0 : Int32) :
    Go p e below s 0 0 (QP (some (.int (K1_164 x0))) h0 n0) T (mkF m 164 #[.val (.int x0), .unset] []) := by
  rw [K1_164]
  refine w_iloadN X hx (hb hby d1_164) (pc' := 165) rfl rfl ?_
  refine w_sipush (v := 12289) X hx (hb hby d1_165) (pc' := 168) rfl rfl ?_
  refine w_icmp_lt X hx (hb hby d1_168) (pf := 171) (pt := 177) rfl (by decide) (by decide) (fun hc168 => ?_) (fun hc168 => ?_)
  · rw [if_pos hc168]
    exact bk1_177 X hx hZ hw hby hml hown hret hlk e0 N0 x0
  · rw [if_neg hc168]
    refine w_iloadN X hx (hb hby d1_171) (pc' := 172) rfl rfl ?_
    refine w_ldc X hx hZ hown (hw _ (List.mem_of_getElem? (i := 15) rfl)) (hb hby d1_172) (pc' := 174) rfl ?_
    refine w_icmp_le X hx (hb hby d1_174) (pf := 177) (pt := 213) rfl (by decide) (by decide) (fun hc174 => ?_) (fun hc174 => ?_)
    · rw [if_neg hc174]
      refine w_iconst (v := 1) X hx (hb hby d1_213) (pc' := 214) rfl rfl ?_
      refine w_goto X hx (hb hby d1_214) (pc' := 218) (by decide) (by decide) ?_
      refine w_istoreN (Ls' := #[.val (.int x0), .val (.int (1 : Int32))]) X hx (hb hby d1_218) (pc' := 219) rfl rfl ?_
      refine w_iloadN X hx (hb hby d1_219) (pc' := 220) rfl rfl ?_
      exact w_retZ X hx hret hlk (hb hby d1_220) (by decide) (by decide) ⟨rfl, N0, e0⟩
    · rw [if_pos hc174]
      exact bk1_177 X hx hZ hw hby hml hown hret hlk e0 N0 x0
def K1_150 (x0 : Int32) : Int32 :=
  (if x0 < (11264 : Int32) then (K1_164 x0)
  else (if (12271 : Int32) < x0 then (K1_164 x0)
   else (1 : Int32)))
set_option maxRecDepth 65536 in
set_option maxHeartbeats 4000000 in
theorem bk1_150 {p : Program} {l : Launch} {e : Env} {s : State} {m : MethodId} {args : Array Value} {below : List Frame} {meth : Method} {c : Code} {T : State} {locs : List Loc} {Z : State} {a0 : Array Value} {h0 : Heap} {n0 : Nat} (X : Stand p l e ({ frames := 0, cells := 0, slots := 0, locals := 0 } : Room) s m args below meth c T locs 0 0) (hx : p.tables.exec = Jvm.exec) (hZ : Z.Warmed39 s.vm) (hw : ∀ d ∈ tables_1, d.before a0 Z = true) (hby : c.code = prog_51_method_4_code) (hml : c.maxLocals = 2) (hown : s.vm.findClass "com/example/corelint/corelint/XmlChars" = some m.cls) (hret : meth.sig.returnType = (some .boolean)) (hlk : meth.locks = false) (e0 : T.heap = h0) (N0 : Fr n0 locs) (x0 : Int32) :
    Go p e below s 0 0 (QP (some (.int (K1_150 x0))) h0 n0) T (mkF m 150 #[.val (.int x0), .unset] []) := by
  rw [K1_150]
  refine w_iloadN X hx (hb hby d1_150) (pc' := 151) rfl rfl ?_
  refine w_sipush (v := 11264) X hx (hb hby d1_151) (pc' := 154) rfl rfl ?_
  refine w_icmp_lt X hx (hb hby d1_154) (pf := 157) (pt := 164) rfl (by decide) (by decide) (fun hc154 => ?_) (fun hc154 => ?_)
  · rw [if_pos hc154]
    exact bk1_164 X hx hZ hw hby hml hown hret hlk e0 N0 x0
  · rw [if_neg hc154]
    refine w_iloadN X hx (hb hby d1_157) (pc' := 158) rfl rfl ?_
    refine w_sipush (v := 12271) X hx (hb hby d1_158) (pc' := 161) rfl rfl ?_
    refine w_icmp_le X hx (hb hby d1_161) (pf := 164) (pt := 213) rfl (by decide) (by decide) (fun hc161 => ?_) (fun hc161 => ?_)
    · rw [if_neg hc161]
      refine w_iconst (v := 1) X hx (hb hby d1_213) (pc' := 214) rfl rfl ?_
      refine w_goto X hx (hb hby d1_214) (pc' := 218) (by decide) (by decide) ?_
      refine w_istoreN (Ls' := #[.val (.int x0), .val (.int (1 : Int32))]) X hx (hb hby d1_218) (pc' := 219) rfl rfl ?_
      refine w_iloadN X hx (hb hby d1_219) (pc' := 220) rfl rfl ?_
      exact w_retZ X hx hret hlk (hb hby d1_220) (by decide) (by decide) ⟨rfl, N0, e0⟩
    · rw [if_pos hc161]
      exact bk1_164 X hx hZ hw hby hml hown hret hlk e0 N0 x0
def K1_122 (x0 : Int32) : Int32 :=
  (if x0 = (8204 : Int32) then (1 : Int32)
  else (if x0 = (8205 : Int32) then (1 : Int32)
   else (if x0 < (8304 : Int32) then (K1_150 x0)
    else (if (8591 : Int32) < x0 then (K1_150 x0)
     else (1 : Int32)))))
set_option maxRecDepth 65536 in
set_option maxHeartbeats 4000000 in
theorem bk1_122 {p : Program} {l : Launch} {e : Env} {s : State} {m : MethodId} {args : Array Value} {below : List Frame} {meth : Method} {c : Code} {T : State} {locs : List Loc} {Z : State} {a0 : Array Value} {h0 : Heap} {n0 : Nat} (X : Stand p l e ({ frames := 0, cells := 0, slots := 0, locals := 0 } : Room) s m args below meth c T locs 0 0) (hx : p.tables.exec = Jvm.exec) (hZ : Z.Warmed39 s.vm) (hw : ∀ d ∈ tables_1, d.before a0 Z = true) (hby : c.code = prog_51_method_4_code) (hml : c.maxLocals = 2) (hown : s.vm.findClass "com/example/corelint/corelint/XmlChars" = some m.cls) (hret : meth.sig.returnType = (some .boolean)) (hlk : meth.locks = false) (e0 : T.heap = h0) (N0 : Fr n0 locs) (x0 : Int32) :
    Go p e below s 0 0 (QP (some (.int (K1_122 x0))) h0 n0) T (mkF m 122 #[.val (.int x0), .unset] []) := by
  rw [K1_122]
  refine w_iloadN X hx (hb hby d1_122) (pc' := 123) rfl rfl ?_
  refine w_sipush (v := 8204) X hx (hb hby d1_123) (pc' := 126) rfl rfl ?_
  refine w_icmp_eq X hx (hb hby d1_126) (pf := 129) (pt := 213) rfl (by decide) (by decide) (fun hc126 => ?_) (fun hc126 => ?_)
  · rw [if_pos hc126]
    refine w_iconst (v := 1) X hx (hb hby d1_213) (pc' := 214) rfl rfl ?_
    refine w_goto X hx (hb hby d1_214) (pc' := 218) (by decide) (by decide) ?_
    refine w_istoreN (Ls' := #[.val (.int x0), .val (.int (1 : Int32))]) X hx (hb hby d1_218) (pc' := 219) rfl rfl ?_
    refine w_iloadN X hx (hb hby d1_219) (pc' := 220) rfl rfl ?_
    exact w_retZ X hx hret hlk (hb hby d1_220) (by decide) (by decide) ⟨rfl, N0, e0⟩
  · rw [if_neg hc126]
    refine w_iloadN X hx (hb hby d1_129) (pc' := 130) rfl rfl ?_
    refine w_sipush (v := 8205) X hx (hb hby d1_130) (pc' := 133) rfl rfl ?_
    refine w_icmp_eq X hx (hb hby d1_133) (pf := 136) (pt := 213) rfl (by decide) (by decide) (fun hc133 => ?_) (fun hc133 => ?_)
    · rw [if_pos hc133]
      refine w_iconst (v := 1) X hx (hb hby d1_213) (pc' := 214) rfl rfl ?_
      refine w_goto X hx (hb hby d1_214) (pc' := 218) (by decide) (by decide) ?_
      refine w_istoreN (Ls' := #[.val (.int x0), .val (.int (1 : Int32))]) X hx (hb hby d1_218) (pc' := 219) rfl rfl ?_
      refine w_iloadN X hx (hb hby d1_219) (pc' := 220) rfl rfl ?_
      exact w_retZ X hx hret hlk (hb hby d1_220) (by decide) (by decide) ⟨rfl, N0, e0⟩
    · rw [if_neg hc133]
      refine w_iloadN X hx (hb hby d1_136) (pc' := 137) rfl rfl ?_
      refine w_sipush (v := 8304) X hx (hb hby d1_137) (pc' := 140) rfl rfl ?_
      refine w_icmp_lt X hx (hb hby d1_140) (pf := 143) (pt := 150) rfl (by decide) (by decide) (fun hc140 => ?_) (fun hc140 => ?_)
      · rw [if_pos hc140]
        exact bk1_150 X hx hZ hw hby hml hown hret hlk e0 N0 x0
      · rw [if_neg hc140]
        refine w_iloadN X hx (hb hby d1_143) (pc' := 144) rfl rfl ?_
        refine w_sipush (v := 8591) X hx (hb hby d1_144) (pc' := 147) rfl rfl ?_
        refine w_icmp_le X hx (hb hby d1_147) (pf := 150) (pt := 213) rfl (by decide) (by decide) (fun hc147 => ?_) (fun hc147 => ?_)
        · rw [if_neg hc147]
          refine w_iconst (v := 1) X hx (hb hby d1_213) (pc' := 214) rfl rfl ?_
          refine w_goto X hx (hb hby d1_214) (pc' := 218) (by decide) (by decide) ?_
          refine w_istoreN (Ls' := #[.val (.int x0), .val (.int (1 : Int32))]) X hx (hb hby d1_218) (pc' := 219) rfl rfl ?_
          refine w_iloadN X hx (hb hby d1_219) (pc' := 220) rfl rfl ?_
          exact w_retZ X hx hret hlk (hb hby d1_220) (by decide) (by decide) ⟨rfl, N0, e0⟩
        · rw [if_pos hc147]
          exact bk1_150 X hx hZ hw hby hml hown hret hlk e0 N0 x0
def K1_108 (x0 : Int32) : Int32 :=
  (if x0 < (895 : Int32) then (K1_122 x0)
  else (if (8191 : Int32) < x0 then (K1_122 x0)
   else (1 : Int32)))
set_option maxRecDepth 65536 in
set_option maxHeartbeats 4000000 in
theorem bk1_108 {p : Program} {l : Launch} {e : Env} {s : State} {m : MethodId} {args : Array Value} {below : List Frame} {meth : Method} {c : Code} {T : State} {locs : List Loc} {Z : State} {a0 : Array Value} {h0 : Heap} {n0 : Nat} (X : Stand p l e ({ frames := 0, cells := 0, slots := 0, locals := 0 } : Room) s m args below meth c T locs 0 0) (hx : p.tables.exec = Jvm.exec) (hZ : Z.Warmed39 s.vm) (hw : ∀ d ∈ tables_1, d.before a0 Z = true) (hby : c.code = prog_51_method_4_code) (hml : c.maxLocals = 2) (hown : s.vm.findClass "com/example/corelint/corelint/XmlChars" = some m.cls) (hret : meth.sig.returnType = (some .boolean)) (hlk : meth.locks = false) (e0 : T.heap = h0) (N0 : Fr n0 locs) (x0 : Int32) :
    Go p e below s 0 0 (QP (some (.int (K1_108 x0))) h0 n0) T (mkF m 108 #[.val (.int x0), .unset] []) := by
  rw [K1_108]
  refine w_iloadN X hx (hb hby d1_108) (pc' := 109) rfl rfl ?_
  refine w_sipush (v := 895) X hx (hb hby d1_109) (pc' := 112) rfl rfl ?_
  refine w_icmp_lt X hx (hb hby d1_112) (pf := 115) (pt := 122) rfl (by decide) (by decide) (fun hc112 => ?_) (fun hc112 => ?_)
  · rw [if_pos hc112]
    exact bk1_122 X hx hZ hw hby hml hown hret hlk e0 N0 x0
  · rw [if_neg hc112]
    refine w_iloadN X hx (hb hby d1_115) (pc' := 116) rfl rfl ?_
    refine w_sipush (v := 8191) X hx (hb hby d1_116) (pc' := 119) rfl rfl ?_
    refine w_icmp_le X hx (hb hby d1_119) (pf := 122) (pt := 213) rfl (by decide) (by decide) (fun hc119 => ?_) (fun hc119 => ?_)
    · rw [if_neg hc119]
      refine w_iconst (v := 1) X hx (hb hby d1_213) (pc' := 214) rfl rfl ?_
      refine w_goto X hx (hb hby d1_214) (pc' := 218) (by decide) (by decide) ?_
      refine w_istoreN (Ls' := #[.val (.int x0), .val (.int (1 : Int32))]) X hx (hb hby d1_218) (pc' := 219) rfl rfl ?_
      refine w_iloadN X hx (hb hby d1_219) (pc' := 220) rfl rfl ?_
      exact w_retZ X hx hret hlk (hb hby d1_220) (by decide) (by decide) ⟨rfl, N0, e0⟩
    · rw [if_pos hc119]
      exact bk1_122 X hx hZ hw hby hml hown hret hlk e0 N0 x0
def K1_94 (x0 : Int32) : Int32 :=
  (if x0 < (880 : Int32) then (K1_108 x0)
  else (if (893 : Int32) < x0 then (K1_108 x0)
   else (1 : Int32)))
set_option maxRecDepth 65536 in
set_option maxHeartbeats 4000000 in
theorem bk1_94 {p : Program} {l : Launch} {e : Env} {s : State} {m : MethodId} {args : Array Value} {below : List Frame} {meth : Method} {c : Code} {T : State} {locs : List Loc} {Z : State} {a0 : Array Value} {h0 : Heap} {n0 : Nat} (X : Stand p l e ({ frames := 0, cells := 0, slots := 0, locals := 0 } : Room) s m args below meth c T locs 0 0) (hx : p.tables.exec = Jvm.exec) (hZ : Z.Warmed39 s.vm) (hw : ∀ d ∈ tables_1, d.before a0 Z = true) (hby : c.code = prog_51_method_4_code) (hml : c.maxLocals = 2) (hown : s.vm.findClass "com/example/corelint/corelint/XmlChars" = some m.cls) (hret : meth.sig.returnType = (some .boolean)) (hlk : meth.locks = false) (e0 : T.heap = h0) (N0 : Fr n0 locs) (x0 : Int32) :
    Go p e below s 0 0 (QP (some (.int (K1_94 x0))) h0 n0) T (mkF m 94 #[.val (.int x0), .unset] []) := by
  rw [K1_94]
  refine w_iloadN X hx (hb hby d1_94) (pc' := 95) rfl rfl ?_
  refine w_sipush (v := 880) X hx (hb hby d1_95) (pc' := 98) rfl rfl ?_
  refine w_icmp_lt X hx (hb hby d1_98) (pf := 101) (pt := 108) rfl (by decide) (by decide) (fun hc98 => ?_) (fun hc98 => ?_)
  · rw [if_pos hc98]
    exact bk1_108 X hx hZ hw hby hml hown hret hlk e0 N0 x0
  · rw [if_neg hc98]
    refine w_iloadN X hx (hb hby d1_101) (pc' := 102) rfl rfl ?_
    refine w_sipush (v := 893) X hx (hb hby d1_102) (pc' := 105) rfl rfl ?_
    refine w_icmp_le X hx (hb hby d1_105) (pf := 108) (pt := 213) rfl (by decide) (by decide) (fun hc105 => ?_) (fun hc105 => ?_)
    · rw [if_neg hc105]
      refine w_iconst (v := 1) X hx (hb hby d1_213) (pc' := 214) rfl rfl ?_
      refine w_goto X hx (hb hby d1_214) (pc' := 218) (by decide) (by decide) ?_
      refine w_istoreN (Ls' := #[.val (.int x0), .val (.int (1 : Int32))]) X hx (hb hby d1_218) (pc' := 219) rfl rfl ?_
      refine w_iloadN X hx (hb hby d1_219) (pc' := 220) rfl rfl ?_
      exact w_retZ X hx hret hlk (hb hby d1_220) (by decide) (by decide) ⟨rfl, N0, e0⟩
    · rw [if_pos hc105]
      exact bk1_108 X hx hZ hw hby hml hown hret hlk e0 N0 x0
def K1_80 (x0 : Int32) : Int32 :=
  (if x0 < (248 : Int32) then (K1_94 x0)
  else (if (767 : Int32) < x0 then (K1_94 x0)
   else (1 : Int32)))
set_option maxRecDepth 65536 in
set_option maxHeartbeats 4000000 in
theorem bk1_80 {p : Program} {l : Launch} {e : Env} {s : State} {m : MethodId} {args : Array Value} {below : List Frame} {meth : Method} {c : Code} {T : State} {locs : List Loc} {Z : State} {a0 : Array Value} {h0 : Heap} {n0 : Nat} (X : Stand p l e ({ frames := 0, cells := 0, slots := 0, locals := 0 } : Room) s m args below meth c T locs 0 0) (hx : p.tables.exec = Jvm.exec) (hZ : Z.Warmed39 s.vm) (hw : ∀ d ∈ tables_1, d.before a0 Z = true) (hby : c.code = prog_51_method_4_code) (hml : c.maxLocals = 2) (hown : s.vm.findClass "com/example/corelint/corelint/XmlChars" = some m.cls) (hret : meth.sig.returnType = (some .boolean)) (hlk : meth.locks = false) (e0 : T.heap = h0) (N0 : Fr n0 locs) (x0 : Int32) :
    Go p e below s 0 0 (QP (some (.int (K1_80 x0))) h0 n0) T (mkF m 80 #[.val (.int x0), .unset] []) := by
  rw [K1_80]
  refine w_iloadN X hx (hb hby d1_80) (pc' := 81) rfl rfl ?_
  refine w_sipush (v := 248) X hx (hb hby d1_81) (pc' := 84) rfl rfl ?_
  refine w_icmp_lt X hx (hb hby d1_84) (pf := 87) (pt := 94) rfl (by decide) (by decide) (fun hc84 => ?_) (fun hc84 => ?_)
  · rw [if_pos hc84]
    exact bk1_94 X hx hZ hw hby hml hown hret hlk e0 N0 x0
  · rw [if_neg hc84]
    refine w_iloadN X hx (hb hby d1_87) (pc' := 88) rfl rfl ?_
    refine w_sipush (v := 767) X hx (hb hby d1_88) (pc' := 91) rfl rfl ?_
    refine w_icmp_le X hx (hb hby d1_91) (pf := 94) (pt := 213) rfl (by decide) (by decide) (fun hc91 => ?_) (fun hc91 => ?_)
    · rw [if_neg hc91]
      refine w_iconst (v := 1) X hx (hb hby d1_213) (pc' := 214) rfl rfl ?_
      refine w_goto X hx (hb hby d1_214) (pc' := 218) (by decide) (by decide) ?_
      refine w_istoreN (Ls' := #[.val (.int x0), .val (.int (1 : Int32))]) X hx (hb hby d1_218) (pc' := 219) rfl rfl ?_
      refine w_iloadN X hx (hb hby d1_219) (pc' := 220) rfl rfl ?_
      exact w_retZ X hx hret hlk (hb hby d1_220) (by decide) (by decide) ⟨rfl, N0, e0⟩
    · rw [if_pos hc91]
      exact bk1_94 X hx hZ hw hby hml hown hret hlk e0 N0 x0
def K1_66 (x0 : Int32) : Int32 :=
  (if x0 < (216 : Int32) then (K1_80 x0)
  else (if (246 : Int32) < x0 then (K1_80 x0)
   else (1 : Int32)))
set_option maxRecDepth 65536 in
set_option maxHeartbeats 4000000 in
theorem bk1_66 {p : Program} {l : Launch} {e : Env} {s : State} {m : MethodId} {args : Array Value} {below : List Frame} {meth : Method} {c : Code} {T : State} {locs : List Loc} {Z : State} {a0 : Array Value} {h0 : Heap} {n0 : Nat} (X : Stand p l e ({ frames := 0, cells := 0, slots := 0, locals := 0 } : Room) s m args below meth c T locs 0 0) (hx : p.tables.exec = Jvm.exec) (hZ : Z.Warmed39 s.vm) (hw : ∀ d ∈ tables_1, d.before a0 Z = true) (hby : c.code = prog_51_method_4_code) (hml : c.maxLocals = 2) (hown : s.vm.findClass "com/example/corelint/corelint/XmlChars" = some m.cls) (hret : meth.sig.returnType = (some .boolean)) (hlk : meth.locks = false) (e0 : T.heap = h0) (N0 : Fr n0 locs) (x0 : Int32) :
    Go p e below s 0 0 (QP (some (.int (K1_66 x0))) h0 n0) T (mkF m 66 #[.val (.int x0), .unset] []) := by
  rw [K1_66]
  refine w_iloadN X hx (hb hby d1_66) (pc' := 67) rfl rfl ?_
  refine w_sipush (v := 216) X hx (hb hby d1_67) (pc' := 70) rfl rfl ?_
  refine w_icmp_lt X hx (hb hby d1_70) (pf := 73) (pt := 80) rfl (by decide) (by decide) (fun hc70 => ?_) (fun hc70 => ?_)
  · rw [if_pos hc70]
    exact bk1_80 X hx hZ hw hby hml hown hret hlk e0 N0 x0
  · rw [if_neg hc70]
    refine w_iloadN X hx (hb hby d1_73) (pc' := 74) rfl rfl ?_
    refine w_sipush (v := 246) X hx (hb hby d1_74) (pc' := 77) rfl rfl ?_
    refine w_icmp_le X hx (hb hby d1_77) (pf := 80) (pt := 213) rfl (by decide) (by decide) (fun hc77 => ?_) (fun hc77 => ?_)
    · rw [if_neg hc77]
      refine w_iconst (v := 1) X hx (hb hby d1_213) (pc' := 214) rfl rfl ?_
      refine w_goto X hx (hb hby d1_214) (pc' := 218) (by decide) (by decide) ?_
      refine w_istoreN (Ls' := #[.val (.int x0), .val (.int (1 : Int32))]) X hx (hb hby d1_218) (pc' := 219) rfl rfl ?_
      refine w_iloadN X hx (hb hby d1_219) (pc' := 220) rfl rfl ?_
      exact w_retZ X hx hret hlk (hb hby d1_220) (by decide) (by decide) ⟨rfl, N0, e0⟩
    · rw [if_pos hc77]
      exact bk1_80 X hx hZ hw hby hml hown hret hlk e0 N0 x0
def K1_31 (x0 : Int32) : Int32 :=
  (if x0 = (95 : Int32) then (1 : Int32)
  else (if x0 = (58 : Int32) then (1 : Int32)
   else (0 : Int32)))
set_option maxRecDepth 65536 in
set_option maxHeartbeats 4000000 in
theorem bk1_31 {p : Program} {l : Launch} {e : Env} {s : State} {m : MethodId} {args : Array Value} {below : List Frame} {meth : Method} {c : Code} {T : State} {locs : List Loc} {Z : State} {a0 : Array Value} {h0 : Heap} {n0 : Nat} (X : Stand p l e ({ frames := 0, cells := 0, slots := 0, locals := 0 } : Room) s m args below meth c T locs 0 0) (hx : p.tables.exec = Jvm.exec) (hZ : Z.Warmed39 s.vm) (hw : ∀ d ∈ tables_1, d.before a0 Z = true) (hby : c.code = prog_51_method_4_code) (hml : c.maxLocals = 2) (hown : s.vm.findClass "com/example/corelint/corelint/XmlChars" = some m.cls) (hret : meth.sig.returnType = (some .boolean)) (hlk : meth.locks = false) (e0 : T.heap = h0) (N0 : Fr n0 locs) (x0 : Int32) :
    Go p e below s 0 0 (QP (some (.int (K1_31 x0))) h0 n0) T (mkF m 31 #[.val (.int x0), .unset] []) := by
  rw [K1_31]
  refine w_iloadN X hx (hb hby d1_31) (pc' := 32) rfl rfl ?_
  refine w_bipush (v := 95) X hx (hb hby d1_32) (pc' := 34) rfl rfl ?_
  refine w_icmp_eq X hx (hb hby d1_34) (pf := 37) (pt := 43) rfl (by decide) (by decide) (fun hc34 => ?_) (fun hc34 => ?_)
  · rw [if_pos hc34]
    refine w_iconst (v := 1) X hx (hb hby d1_43) (pc' := 44) rfl rfl ?_
    refine w_goto X hx (hb hby d1_44) (pc' := 48) (by decide) (by decide) ?_
    refine w_istoreN (Ls' := #[.val (.int x0), .val (.int (1 : Int32))]) X hx (hb hby d1_48) (pc' := 49) rfl rfl ?_
    refine w_goto X hx (hb hby d1_49) (pc' := 219) (by decide) (by decide) ?_
    refine w_iloadN X hx (hb hby d1_219) (pc' := 220) rfl rfl ?_
    exact w_retZ X hx hret hlk (hb hby d1_220) (by decide) (by decide) ⟨rfl, N0, e0⟩
  · rw [if_neg hc34]
    refine w_iloadN X hx (hb hby d1_37) (pc' := 38) rfl rfl ?_
    refine w_bipush (v := 58) X hx (hb hby d1_38) (pc' := 40) rfl rfl ?_
    refine w_icmp_ne X hx (hb hby d1_40) (pf := 43) (pt := 47) rfl (by decide) (by decide) (fun hc40 => ?_) (fun hc40 => ?_)
    · rw [if_neg hc40]
      refine w_iconst (v := 0) X hx (hb hby d1_47) (pc' := 48) rfl rfl ?_
      refine w_istoreN (Ls' := #[.val (.int x0), .val (.int (0 : Int32))]) X hx (hb hby d1_48) (pc' := 49) rfl rfl ?_
      refine w_goto X hx (hb hby d1_49) (pc' := 219) (by decide) (by decide) ?_
      refine w_iloadN X hx (hb hby d1_219) (pc' := 220) rfl rfl ?_
      exact w_retZ X hx hret hlk (hb hby d1_220) (by decide) (by decide) ⟨rfl, N0, e0⟩
    · rw [if_pos hc40]
      refine w_iconst (v := 1) X hx (hb hby d1_43) (pc' := 44) rfl rfl ?_
      refine w_goto X hx (hb hby d1_44) (pc' := 48) (by decide) (by decide) ?_
      refine w_istoreN (Ls' := #[.val (.int x0), .val (.int (1 : Int32))]) X hx (hb hby d1_48) (pc' := 49) rfl rfl ?_
      refine w_goto X hx (hb hby d1_49) (pc' := 219) (by decide) (by decide) ?_
      refine w_iloadN X hx (hb hby d1_219) (pc' := 220) rfl rfl ?_
      exact w_retZ X hx hret hlk (hb hby d1_220) (by decide) (by decide) ⟨rfl, N0, e0⟩
def K1_19 (x0 : Int32) : Int32 :=
  (if x0 < (65 : Int32) then (K1_31 x0)
  else (if (90 : Int32) < x0 then (K1_31 x0)
   else (1 : Int32)))
set_option maxRecDepth 65536 in
set_option maxHeartbeats 4000000 in
theorem bk1_19 {p : Program} {l : Launch} {e : Env} {s : State} {m : MethodId} {args : Array Value} {below : List Frame} {meth : Method} {c : Code} {T : State} {locs : List Loc} {Z : State} {a0 : Array Value} {h0 : Heap} {n0 : Nat} (X : Stand p l e ({ frames := 0, cells := 0, slots := 0, locals := 0 } : Room) s m args below meth c T locs 0 0) (hx : p.tables.exec = Jvm.exec) (hZ : Z.Warmed39 s.vm) (hw : ∀ d ∈ tables_1, d.before a0 Z = true) (hby : c.code = prog_51_method_4_code) (hml : c.maxLocals = 2) (hown : s.vm.findClass "com/example/corelint/corelint/XmlChars" = some m.cls) (hret : meth.sig.returnType = (some .boolean)) (hlk : meth.locks = false) (e0 : T.heap = h0) (N0 : Fr n0 locs) (x0 : Int32) :
    Go p e below s 0 0 (QP (some (.int (K1_19 x0))) h0 n0) T (mkF m 19 #[.val (.int x0), .unset] []) := by
  rw [K1_19]
  refine w_iloadN X hx (hb hby d1_19) (pc' := 20) rfl rfl ?_
  refine w_bipush (v := 65) X hx (hb hby d1_20) (pc' := 22) rfl rfl ?_
  refine w_icmp_lt X hx (hb hby d1_22) (pf := 25) (pt := 31) rfl (by decide) (by decide) (fun hc22 => ?_) (fun hc22 => ?_)
  · rw [if_pos hc22]
    exact bk1_31 X hx hZ hw hby hml hown hret hlk e0 N0 x0
  · rw [if_neg hc22]
    refine w_iloadN X hx (hb hby d1_25) (pc' := 26) rfl rfl ?_
    refine w_bipush (v := 90) X hx (hb hby d1_26) (pc' := 28) rfl rfl ?_
    refine w_icmp_le X hx (hb hby d1_28) (pf := 31) (pt := 43) rfl (by decide) (by decide) (fun hc28 => ?_) (fun hc28 => ?_)
    · rw [if_neg hc28]
      refine w_iconst (v := 1) X hx (hb hby d1_43) (pc' := 44) rfl rfl ?_
      refine w_goto X hx (hb hby d1_44) (pc' := 48) (by decide) (by decide) ?_
      refine w_istoreN (Ls' := #[.val (.int x0), .val (.int (1 : Int32))]) X hx (hb hby d1_48) (pc' := 49) rfl rfl ?_
      refine w_goto X hx (hb hby d1_49) (pc' := 219) (by decide) (by decide) ?_
      refine w_iloadN X hx (hb hby d1_219) (pc' := 220) rfl rfl ?_
      exact w_retZ X hx hret hlk (hb hby d1_220) (by decide) (by decide) ⟨rfl, N0, e0⟩
    · rw [if_pos hc28]
      exact bk1_31 X hx hZ hw hby hml hown hret hlk e0 N0 x0
def K1_0 (x0 : Int32) : Int32 :=
  (if x0 < (128 : Int32) then (if x0 < (97 : Int32) then (K1_19 x0)
   else (if (122 : Int32) < x0 then (K1_19 x0)
    else (1 : Int32)))
  else (if x0 < (192 : Int32) then (K1_66 x0)
   else (if (214 : Int32) < x0 then (K1_66 x0)
    else (1 : Int32))))
set_option maxRecDepth 65536 in
set_option maxHeartbeats 4000000 in
theorem bk1_0 {p : Program} {l : Launch} {e : Env} {s : State} {m : MethodId} {args : Array Value} {below : List Frame} {meth : Method} {c : Code} {T : State} {locs : List Loc} {Z : State} {a0 : Array Value} {h0 : Heap} {n0 : Nat} (X : Stand p l e ({ frames := 0, cells := 0, slots := 0, locals := 0 } : Room) s m args below meth c T locs 0 0) (hx : p.tables.exec = Jvm.exec) (hZ : Z.Warmed39 s.vm) (hw : ∀ d ∈ tables_1, d.before a0 Z = true) (hby : c.code = prog_51_method_4_code) (hml : c.maxLocals = 2) (hown : s.vm.findClass "com/example/corelint/corelint/XmlChars" = some m.cls) (hret : meth.sig.returnType = (some .boolean)) (hlk : meth.locks = false) (e0 : T.heap = h0) (N0 : Fr n0 locs) (x0 : Int32) :
    Go p e below s 0 0 (QP (some (.int (K1_0 x0))) h0 n0) T (mkF m 0 #[.val (.int x0), .unset] []) := by
  rw [K1_0]
  refine w_iloadN X hx (hb hby d1_0) (pc' := 1) rfl rfl ?_
  refine w_sipush (v := 128) X hx (hb hby d1_1) (pc' := 4) rfl rfl ?_
  refine w_icmp_ge X hx (hb hby d1_4) (pf := 7) (pt := 52) rfl (by decide) (by decide) (fun hc4 => ?_) (fun hc4 => ?_)
  · rw [if_neg hc4]
    refine w_iloadN X hx (hb hby d1_52) (pc' := 53) rfl rfl ?_
    refine w_sipush (v := 192) X hx (hb hby d1_53) (pc' := 56) rfl rfl ?_
    refine w_icmp_lt X hx (hb hby d1_56) (pf := 59) (pt := 66) rfl (by decide) (by decide) (fun hc56 => ?_) (fun hc56 => ?_)
    · rw [if_pos hc56]
      exact bk1_66 X hx hZ hw hby hml hown hret hlk e0 N0 x0
    · rw [if_neg hc56]
      refine w_iloadN X hx (hb hby d1_59) (pc' := 60) rfl rfl ?_
      refine w_sipush (v := 214) X hx (hb hby d1_60) (pc' := 63) rfl rfl ?_
      refine w_icmp_le X hx (hb hby d1_63) (pf := 66) (pt := 213) rfl (by decide) (by decide) (fun hc63 => ?_) (fun hc63 => ?_)
      · rw [if_neg hc63]
        refine w_iconst (v := 1) X hx (hb hby d1_213) (pc' := 214) rfl rfl ?_
        refine w_goto X hx (hb hby d1_214) (pc' := 218) (by decide) (by decide) ?_
        refine w_istoreN (Ls' := #[.val (.int x0), .val (.int (1 : Int32))]) X hx (hb hby d1_218) (pc' := 219) rfl rfl ?_
        refine w_iloadN X hx (hb hby d1_219) (pc' := 220) rfl rfl ?_
        exact w_retZ X hx hret hlk (hb hby d1_220) (by decide) (by decide) ⟨rfl, N0, e0⟩
      · rw [if_pos hc63]
        exact bk1_66 X hx hZ hw hby hml hown hret hlk e0 N0 x0
  · rw [if_pos hc4]
    refine w_iloadN X hx (hb hby d1_7) (pc' := 8) rfl rfl ?_
    refine w_bipush (v := 97) X hx (hb hby d1_8) (pc' := 10) rfl rfl ?_
    refine w_icmp_lt X hx (hb hby d1_10) (pf := 13) (pt := 19) rfl (by decide) (by decide) (fun hc10 => ?_) (fun hc10 => ?_)
    · rw [if_pos hc10]
      exact bk1_19 X hx hZ hw hby hml hown hret hlk e0 N0 x0
    · rw [if_neg hc10]
      refine w_iloadN X hx (hb hby d1_13) (pc' := 14) rfl rfl ?_
      refine w_bipush (v := 122) X hx (hb hby d1_14) (pc' := 16) rfl rfl ?_
      refine w_icmp_le X hx (hb hby d1_16) (pf := 19) (pt := 43) rfl (by decide) (by decide) (fun hc16 => ?_) (fun hc16 => ?_)
      · rw [if_neg hc16]
        refine w_iconst (v := 1) X hx (hb hby d1_43) (pc' := 44) rfl rfl ?_
        refine w_goto X hx (hb hby d1_44) (pc' := 48) (by decide) (by decide) ?_
        refine w_istoreN (Ls' := #[.val (.int x0), .val (.int (1 : Int32))]) X hx (hb hby d1_48) (pc' := 49) rfl rfl ?_
        refine w_goto X hx (hb hby d1_49) (pc' := 219) (by decide) (by decide) ?_
        refine w_iloadN X hx (hb hby d1_219) (pc' := 220) rfl rfl ?_
        exact w_retZ X hx hret hlk (hb hby d1_220) (by decide) (by decide) ⟨rfl, N0, e0⟩
      · rw [if_pos hc16]
        exact bk1_19 X hx hZ hw hby hml hown hret hlk e0 N0 x0
theorem ef_1 (m : MethodId) (x0 : Int32) : entryFrame m #[(.int x0)] 2 = mkF m 0 #[.val (.int x0), .unset] [] := by first | (simp [entryFrame, mkF, argsToLocals, Value.category]; done) | rfl
theorem rm1 (l : Launch) (Z : State) (a0 : Array Value) (hw : ∀ d ∈ tables_1, d.before a0 Z = true) (x0 : Int32) (h0 : Heap) (n0 : Nat) :
    Con l Z (⟨"com/example/corelint/corelint/XmlChars", "isNameStart", "(I)Z"⟩ : MethodName) prog_51_method_4_code 2 (some .boolean) ({ frames := 0, cells := 0, slots := 0, locals := 0 } : Room) #[(.int x0)] h0 (QP (some (.int (K1_0 x0))) h0 n0) := by
  refine Con.of (plainFor_of_name (by first | (simp [plainName, overriddenIn]; done) | decide +kernel)) ?_
  intro p e s m below meth c T X hx hZ hby hml hown hnm hret hlk e0
  rw [ef_1]
  exact bk1_0 X hx hZ hw hby hml hown hret hlk e0 (Fr.nil n0) x0
theorem own_m (x m : Int32) {k : Nat} (hk : k < 32) (hm : m.toBitVec.toNat = 2 ^ k - 1) : 0 ≤ (x &&& m).toInt ∧ (x &&& m).toInt < 2 ^ k := by
  rw [Jvm.Kit.i32_mask x m hk hm]
  exact ⟨Int.emod_nonneg _ (by have : (0 : Int) < 2 ^ k := Int.pow_pos (by decide); omega), Int.emod_lt_of_pos _ (Int.pow_pos (by decide))⟩
theorem own_one : (1 : Int32).toInt = 1 := by decide
theorem own_zero : (0 : Int32).toInt = 0 := by decide
theorem own_toInt {x y : Int32} (h : x.toInt = y.toInt) : x = y := Int32.toInt_inj.mp h
theorem own_and1 (x : Int32) : x &&& 1 = 0 ∨ x &&& 1 = 1 := and_one x
theorem own_and3 (x : Int32) : x &&& 3 = 0 ∨ x &&& 3 = 1 ∨ x &&& 3 = 2 ∨ x &&& 3 = 3 := by
  obtain ⟨h1, h2⟩ := own_m x 3 (k := 2) (by decide) (by decide)
  have e1 : (1 : Int32).toInt = 1 := by decide
  have e2 : (2 : Int32).toInt = 2 := by decide
  have e3 : (3 : Int32).toInt = 3 := by decide
  have e0 : (0 : Int32).toInt = 0 := by decide
  have : (x &&& 3).toInt = 0 ∨ (x &&& 3).toInt = 1 ∨ (x &&& 3).toInt = 2 ∨ (x &&& 3).toInt = 3 := by omega
  rcases this with h | h | h | h
  · exact Or.inl (own_toInt (h.trans e0.symm))
  · exact Or.inr (Or.inl (own_toInt (h.trans e1.symm)))
  · exact Or.inr (Or.inr (Or.inl (own_toInt (h.trans e2.symm))))
  · exact Or.inr (Or.inr (Or.inr (own_toInt (h.trans e3.symm))))
theorem own_b01 {c : Prop} [Decidable c] {v : Int32} (h : v = if c then 0 else 1) : v = 0 ∨ v = 1 := by subst h; split <;> simp
theorem own_b10 {c : Prop} [Decidable c] {v : Int32} (h : v = if c then 1 else 0) : v = 0 ∨ v = 1 := by subst h; split <;> simp
def own_tab : List Int32 := [(-2147483648 : Int32), (58 : Int32), (59 : Int32), (65 : Int32), (91 : Int32), (95 : Int32), (96 : Int32), (97 : Int32), (123 : Int32), (192 : Int32), (215 : Int32), (216 : Int32), (247 : Int32), (248 : Int32), (768 : Int32), (880 : Int32), (894 : Int32), (895 : Int32), (8192 : Int32), (8204 : Int32), (8206 : Int32), (8304 : Int32), (8592 : Int32), (11264 : Int32), (12272 : Int32), (12289 : Int32), (55296 : Int32), (63744 : Int32), (64976 : Int32), (65008 : Int32), (65534 : Int32), (65536 : Int32), (983040 : Int32)]
def own_ends : List Int := [-2147483648, 58, 59, 65, 91, 95, 96, 97, 123, 192, 215, 216, 247, 248, 768, 880, 894, 895, 8192, 8204, 8206, 8304, 8592, 11264, 12272, 12289, 55296, 63744, 64976, 65008, 65534, 65536, 983040, 2147483648]
theorem own_ltT {c k : Int32} (K : Int) (hk : k.toInt = K) (h : c.toInt < K) : (c < k) = True := eq_true (by rw [Int32.lt_iff_toInt_lt]; omega)
theorem own_ltF {c k : Int32} (K : Int) (hk : k.toInt = K) (h : ¬ c.toInt < K) : (c < k) = False := eq_false (by rw [Int32.lt_iff_toInt_lt]; omega)
theorem own_gtT {c k : Int32} (K : Int) (hk : k.toInt = K) (h : K < c.toInt) : (k < c) = True := eq_true (by rw [Int32.lt_iff_toInt_lt]; omega)
theorem own_gtF {c k : Int32} (K : Int) (hk : k.toInt = K) (h : ¬ K < c.toInt) : (k < c) = False := eq_false (by rw [Int32.lt_iff_toInt_lt]; omega)
theorem own_eqT {c k : Int32} (K : Int) (hk : k.toInt = K) (h : c.toInt = K) : (c = k) = True := eq_true (Int32.toInt_inj.mp (by omega))
theorem own_eqF {c k : Int32} (K : Int) (hk : k.toInt = K) (h : ¬ c.toInt = K) : (c = k) = False := eq_false (fun q => h (by rw [q]; exact hk))
theorem own_lo : ∀ n, n < 33 → (own_tab.getD n 0).toInt = own_ends.getD n 0 := by decide
theorem own_hi : ∀ n, n < 32 → (own_tab.getD (n + 1) 0 - 1).toInt = own_ends.getD (n + 1) 0 - 1 := by decide
theorem own_mono : ∀ n, n < 33 → own_ends.getD n 0 < own_ends.getD (n + 1) 0 ∧ -2147483648 ≤ own_ends.getD n 0 ∧ own_ends.getD (n + 1) 0 ≤ 2147483648 := by decide
theorem own_k0_0 (c : Int32) (h1 : -2147483648 ≤ c.toInt) (h2 : c.toInt ≤ 57) : K1_0 c = 0 := by
  have t0 := own_eqF (c := c) (k := (58 : Int32)) (58) (by decide) (by omega)
  have t1 := own_eqF (c := c) (k := (95 : Int32)) (95) (by decide) (by omega)
  have t2 := own_eqF (c := c) (k := (8204 : Int32)) (8204) (by decide) (by omega)
  have t3 := own_eqF (c := c) (k := (8205 : Int32)) (8205) (by decide) (by omega)
  have t4 := own_gtF (c := c) (k := (90 : Int32)) (90) (by decide) (by omega)
  have t5 := own_gtF (c := c) (k := (122 : Int32)) (122) (by decide) (by omega)
  have t6 := own_gtF (c := c) (k := (214 : Int32)) (214) (by decide) (by omega)
  have t7 := own_gtF (c := c) (k := (246 : Int32)) (246) (by decide) (by omega)
  have t8 := own_gtF (c := c) (k := (767 : Int32)) (767) (by decide) (by omega)
  have t9 := own_gtF (c := c) (k := (893 : Int32)) (893) (by decide) (by omega)
  have t10 := own_gtF (c := c) (k := (8191 : Int32)) (8191) (by decide) (by omega)
  have t11 := own_gtF (c := c) (k := (8591 : Int32)) (8591) (by decide) (by omega)
  have t12 := own_gtF (c := c) (k := (12271 : Int32)) (12271) (by decide) (by omega)
  have t13 := own_gtF (c := c) (k := (55295 : Int32)) (55295) (by decide) (by omega)
  have t14 := own_gtF (c := c) (k := (64975 : Int32)) (64975) (by decide) (by omega)
  have t15 := own_gtF (c := c) (k := (65533 : Int32)) (65533) (by decide) (by omega)
  have t16 := own_gtF (c := c) (k := (983039 : Int32)) (983039) (by decide) (by omega)
  have t17 := own_ltT (c := c) (k := (65 : Int32)) (65) (by decide) (by omega)
  have t18 := own_ltT (c := c) (k := (97 : Int32)) (97) (by decide) (by omega)
  have t19 := own_ltT (c := c) (k := (128 : Int32)) (128) (by decide) (by omega)
  have t20 := own_ltT (c := c) (k := (192 : Int32)) (192) (by decide) (by omega)
  have t21 := own_ltT (c := c) (k := (216 : Int32)) (216) (by decide) (by omega)
  have t22 := own_ltT (c := c) (k := (248 : Int32)) (248) (by decide) (by omega)
  have t23 := own_ltT (c := c) (k := (880 : Int32)) (880) (by decide) (by omega)
  have t24 := own_ltT (c := c) (k := (895 : Int32)) (895) (by decide) (by omega)
  have t25 := own_ltT (c := c) (k := (8304 : Int32)) (8304) (by decide) (by omega)
  have t26 := own_ltT (c := c) (k := (11264 : Int32)) (11264) (by decide) (by omega)
  have t27 := own_ltT (c := c) (k := (12289 : Int32)) (12289) (by decide) (by omega)
  have t28 := own_ltT (c := c) (k := (63744 : Int32)) (63744) (by decide) (by omega)
  have t29 := own_ltT (c := c) (k := (65008 : Int32)) (65008) (by decide) (by omega)
  have t30 := own_ltT (c := c) (k := (65536 : Int32)) (65536) (by decide) (by omega)
  simp +decide only [K1_0, K1_108, K1_122, K1_150, K1_164, K1_177, K1_189, K1_19, K1_201, K1_31, K1_66, K1_80, K1_94, t0, t1, t2, t3, t4, t5, t6, t7, t8, t9, t10, t11, t12, t13, t14, t15, t16, t17, t18, t19, t20, t21, t22, t23, t24, t25, t26, t27, t28, t29, t30, if_true, if_false, ↓reduceIte]
theorem own_k0 (c : Int32) (h1 : -2147483648 ≤ c.toInt) (h2 : c.toInt < 58) : K1_0 c = 0 := by
  exact own_k0_0 c (by omega) (by omega)
theorem own_k1_0 (c : Int32) (h1 : 58 ≤ c.toInt) (h2 : c.toInt ≤ 58) : K1_0 c = 1 := by
  have t0 := own_eqT (c := c) (k := (58 : Int32)) (58) (by decide) (by omega)
  have t1 := own_eqF (c := c) (k := (95 : Int32)) (95) (by decide) (by omega)
  have t2 := own_eqF (c := c) (k := (8204 : Int32)) (8204) (by decide) (by omega)
  have t3 := own_eqF (c := c) (k := (8205 : Int32)) (8205) (by decide) (by omega)
  have t4 := own_gtF (c := c) (k := (90 : Int32)) (90) (by decide) (by omega)
  have t5 := own_gtF (c := c) (k := (122 : Int32)) (122) (by decide) (by omega)
  have t6 := own_gtF (c := c) (k := (214 : Int32)) (214) (by decide) (by omega)
  have t7 := own_gtF (c := c) (k := (246 : Int32)) (246) (by decide) (by omega)
  have t8 := own_gtF (c := c) (k := (767 : Int32)) (767) (by decide) (by omega)
  have t9 := own_gtF (c := c) (k := (893 : Int32)) (893) (by decide) (by omega)
  have t10 := own_gtF (c := c) (k := (8191 : Int32)) (8191) (by decide) (by omega)
  have t11 := own_gtF (c := c) (k := (8591 : Int32)) (8591) (by decide) (by omega)
  have t12 := own_gtF (c := c) (k := (12271 : Int32)) (12271) (by decide) (by omega)
  have t13 := own_gtF (c := c) (k := (55295 : Int32)) (55295) (by decide) (by omega)
  have t14 := own_gtF (c := c) (k := (64975 : Int32)) (64975) (by decide) (by omega)
  have t15 := own_gtF (c := c) (k := (65533 : Int32)) (65533) (by decide) (by omega)
  have t16 := own_gtF (c := c) (k := (983039 : Int32)) (983039) (by decide) (by omega)
  have t17 := own_ltT (c := c) (k := (65 : Int32)) (65) (by decide) (by omega)
  have t18 := own_ltT (c := c) (k := (97 : Int32)) (97) (by decide) (by omega)
  have t19 := own_ltT (c := c) (k := (128 : Int32)) (128) (by decide) (by omega)
  have t20 := own_ltT (c := c) (k := (192 : Int32)) (192) (by decide) (by omega)
  have t21 := own_ltT (c := c) (k := (216 : Int32)) (216) (by decide) (by omega)
  have t22 := own_ltT (c := c) (k := (248 : Int32)) (248) (by decide) (by omega)
  have t23 := own_ltT (c := c) (k := (880 : Int32)) (880) (by decide) (by omega)
  have t24 := own_ltT (c := c) (k := (895 : Int32)) (895) (by decide) (by omega)
  have t25 := own_ltT (c := c) (k := (8304 : Int32)) (8304) (by decide) (by omega)
  have t26 := own_ltT (c := c) (k := (11264 : Int32)) (11264) (by decide) (by omega)
  have t27 := own_ltT (c := c) (k := (12289 : Int32)) (12289) (by decide) (by omega)
  have t28 := own_ltT (c := c) (k := (63744 : Int32)) (63744) (by decide) (by omega)
  have t29 := own_ltT (c := c) (k := (65008 : Int32)) (65008) (by decide) (by omega)
  have t30 := own_ltT (c := c) (k := (65536 : Int32)) (65536) (by decide) (by omega)
  simp +decide only [K1_0, K1_108, K1_122, K1_150, K1_164, K1_177, K1_189, K1_19, K1_201, K1_31, K1_66, K1_80, K1_94, t0, t1, t2, t3, t4, t5, t6, t7, t8, t9, t10, t11, t12, t13, t14, t15, t16, t17, t18, t19, t20, t21, t22, t23, t24, t25, t26, t27, t28, t29, t30, if_true, if_false, ↓reduceIte]
theorem own_k1 (c : Int32) (h1 : 58 ≤ c.toInt) (h2 : c.toInt < 59) : K1_0 c = 1 := by
  exact own_k1_0 c (by omega) (by omega)
theorem own_k2_0 (c : Int32) (h1 : 59 ≤ c.toInt) (h2 : c.toInt ≤ 64) : K1_0 c = 0 := by
  have t0 := own_eqF (c := c) (k := (58 : Int32)) (58) (by decide) (by omega)
  have t1 := own_eqF (c := c) (k := (95 : Int32)) (95) (by decide) (by omega)
  have t2 := own_eqF (c := c) (k := (8204 : Int32)) (8204) (by decide) (by omega)
  have t3 := own_eqF (c := c) (k := (8205 : Int32)) (8205) (by decide) (by omega)
  have t4 := own_gtF (c := c) (k := (90 : Int32)) (90) (by decide) (by omega)
  have t5 := own_gtF (c := c) (k := (122 : Int32)) (122) (by decide) (by omega)
  have t6 := own_gtF (c := c) (k := (214 : Int32)) (214) (by decide) (by omega)
  have t7 := own_gtF (c := c) (k := (246 : Int32)) (246) (by decide) (by omega)
  have t8 := own_gtF (c := c) (k := (767 : Int32)) (767) (by decide) (by omega)
  have t9 := own_gtF (c := c) (k := (893 : Int32)) (893) (by decide) (by omega)
  have t10 := own_gtF (c := c) (k := (8191 : Int32)) (8191) (by decide) (by omega)
  have t11 := own_gtF (c := c) (k := (8591 : Int32)) (8591) (by decide) (by omega)
  have t12 := own_gtF (c := c) (k := (12271 : Int32)) (12271) (by decide) (by omega)
  have t13 := own_gtF (c := c) (k := (55295 : Int32)) (55295) (by decide) (by omega)
  have t14 := own_gtF (c := c) (k := (64975 : Int32)) (64975) (by decide) (by omega)
  have t15 := own_gtF (c := c) (k := (65533 : Int32)) (65533) (by decide) (by omega)
  have t16 := own_gtF (c := c) (k := (983039 : Int32)) (983039) (by decide) (by omega)
  have t17 := own_ltT (c := c) (k := (65 : Int32)) (65) (by decide) (by omega)
  have t18 := own_ltT (c := c) (k := (97 : Int32)) (97) (by decide) (by omega)
  have t19 := own_ltT (c := c) (k := (128 : Int32)) (128) (by decide) (by omega)
  have t20 := own_ltT (c := c) (k := (192 : Int32)) (192) (by decide) (by omega)
  have t21 := own_ltT (c := c) (k := (216 : Int32)) (216) (by decide) (by omega)
  have t22 := own_ltT (c := c) (k := (248 : Int32)) (248) (by decide) (by omega)
  have t23 := own_ltT (c := c) (k := (880 : Int32)) (880) (by decide) (by omega)
  have t24 := own_ltT (c := c) (k := (895 : Int32)) (895) (by decide) (by omega)
  have t25 := own_ltT (c := c) (k := (8304 : Int32)) (8304) (by decide) (by omega)
  have t26 := own_ltT (c := c) (k := (11264 : Int32)) (11264) (by decide) (by omega)
  have t27 := own_ltT (c := c) (k := (12289 : Int32)) (12289) (by decide) (by omega)
  have t28 := own_ltT (c := c) (k := (63744 : Int32)) (63744) (by decide) (by omega)
  have t29 := own_ltT (c := c) (k := (65008 : Int32)) (65008) (by decide) (by omega)
  have t30 := own_ltT (c := c) (k := (65536 : Int32)) (65536) (by decide) (by omega)
  simp +decide only [K1_0, K1_108, K1_122, K1_150, K1_164, K1_177, K1_189, K1_19, K1_201, K1_31, K1_66, K1_80, K1_94, t0, t1, t2, t3, t4, t5, t6, t7, t8, t9, t10, t11, t12, t13, t14, t15, t16, t17, t18, t19, t20, t21, t22, t23, t24, t25, t26, t27, t28, t29, t30, if_true, if_false, ↓reduceIte]
theorem own_k2 (c : Int32) (h1 : 59 ≤ c.toInt) (h2 : c.toInt < 65) : K1_0 c = 0 := by
  exact own_k2_0 c (by omega) (by omega)
theorem own_k3_0 (c : Int32) (h1 : 65 ≤ c.toInt) (h2 : c.toInt ≤ 90) : K1_0 c = 1 := by
  have t0 := own_eqF (c := c) (k := (58 : Int32)) (58) (by decide) (by omega)
  have t1 := own_eqF (c := c) (k := (95 : Int32)) (95) (by decide) (by omega)
  have t2 := own_eqF (c := c) (k := (8204 : Int32)) (8204) (by decide) (by omega)
  have t3 := own_eqF (c := c) (k := (8205 : Int32)) (8205) (by decide) (by omega)
  have t4 := own_gtF (c := c) (k := (90 : Int32)) (90) (by decide) (by omega)
  have t5 := own_gtF (c := c) (k := (122 : Int32)) (122) (by decide) (by omega)
  have t6 := own_gtF (c := c) (k := (214 : Int32)) (214) (by decide) (by omega)
  have t7 := own_gtF (c := c) (k := (246 : Int32)) (246) (by decide) (by omega)
  have t8 := own_gtF (c := c) (k := (767 : Int32)) (767) (by decide) (by omega)
  have t9 := own_gtF (c := c) (k := (893 : Int32)) (893) (by decide) (by omega)
  have t10 := own_gtF (c := c) (k := (8191 : Int32)) (8191) (by decide) (by omega)
  have t11 := own_gtF (c := c) (k := (8591 : Int32)) (8591) (by decide) (by omega)
  have t12 := own_gtF (c := c) (k := (12271 : Int32)) (12271) (by decide) (by omega)
  have t13 := own_gtF (c := c) (k := (55295 : Int32)) (55295) (by decide) (by omega)
  have t14 := own_gtF (c := c) (k := (64975 : Int32)) (64975) (by decide) (by omega)
  have t15 := own_gtF (c := c) (k := (65533 : Int32)) (65533) (by decide) (by omega)
  have t16 := own_gtF (c := c) (k := (983039 : Int32)) (983039) (by decide) (by omega)
  have t17 := own_ltF (c := c) (k := (65 : Int32)) (65) (by decide) (by omega)
  have t18 := own_ltT (c := c) (k := (97 : Int32)) (97) (by decide) (by omega)
  have t19 := own_ltT (c := c) (k := (128 : Int32)) (128) (by decide) (by omega)
  have t20 := own_ltT (c := c) (k := (192 : Int32)) (192) (by decide) (by omega)
  have t21 := own_ltT (c := c) (k := (216 : Int32)) (216) (by decide) (by omega)
  have t22 := own_ltT (c := c) (k := (248 : Int32)) (248) (by decide) (by omega)
  have t23 := own_ltT (c := c) (k := (880 : Int32)) (880) (by decide) (by omega)
  have t24 := own_ltT (c := c) (k := (895 : Int32)) (895) (by decide) (by omega)
  have t25 := own_ltT (c := c) (k := (8304 : Int32)) (8304) (by decide) (by omega)
  have t26 := own_ltT (c := c) (k := (11264 : Int32)) (11264) (by decide) (by omega)
  have t27 := own_ltT (c := c) (k := (12289 : Int32)) (12289) (by decide) (by omega)
  have t28 := own_ltT (c := c) (k := (63744 : Int32)) (63744) (by decide) (by omega)
  have t29 := own_ltT (c := c) (k := (65008 : Int32)) (65008) (by decide) (by omega)
  have t30 := own_ltT (c := c) (k := (65536 : Int32)) (65536) (by decide) (by omega)
  simp +decide only [K1_0, K1_108, K1_122, K1_150, K1_164, K1_177, K1_189, K1_19, K1_201, K1_31, K1_66, K1_80, K1_94, t0, t1, t2, t3, t4, t5, t6, t7, t8, t9, t10, t11, t12, t13, t14, t15, t16, t17, t18, t19, t20, t21, t22, t23, t24, t25, t26, t27, t28, t29, t30, if_true, if_false, ↓reduceIte]
theorem own_k3 (c : Int32) (h1 : 65 ≤ c.toInt) (h2 : c.toInt < 91) : K1_0 c = 1 := by
  exact own_k3_0 c (by omega) (by omega)
theorem own_k4_0 (c : Int32) (h1 : 91 ≤ c.toInt) (h2 : c.toInt ≤ 94) : K1_0 c = 0 := by
  have t0 := own_eqF (c := c) (k := (58 : Int32)) (58) (by decide) (by omega)
  have t1 := own_eqF (c := c) (k := (95 : Int32)) (95) (by decide) (by omega)
  have t2 := own_eqF (c := c) (k := (8204 : Int32)) (8204) (by decide) (by omega)
  have t3 := own_eqF (c := c) (k := (8205 : Int32)) (8205) (by decide) (by omega)
  have t4 := own_gtT (c := c) (k := (90 : Int32)) (90) (by decide) (by omega)
  have t5 := own_gtF (c := c) (k := (122 : Int32)) (122) (by decide) (by omega)
  have t6 := own_gtF (c := c) (k := (214 : Int32)) (214) (by decide) (by omega)
  have t7 := own_gtF (c := c) (k := (246 : Int32)) (246) (by decide) (by omega)
  have t8 := own_gtF (c := c) (k := (767 : Int32)) (767) (by decide) (by omega)
  have t9 := own_gtF (c := c) (k := (893 : Int32)) (893) (by decide) (by omega)
  have t10 := own_gtF (c := c) (k := (8191 : Int32)) (8191) (by decide) (by omega)
  have t11 := own_gtF (c := c) (k := (8591 : Int32)) (8591) (by decide) (by omega)
  have t12 := own_gtF (c := c) (k := (12271 : Int32)) (12271) (by decide) (by omega)
  have t13 := own_gtF (c := c) (k := (55295 : Int32)) (55295) (by decide) (by omega)
  have t14 := own_gtF (c := c) (k := (64975 : Int32)) (64975) (by decide) (by omega)
  have t15 := own_gtF (c := c) (k := (65533 : Int32)) (65533) (by decide) (by omega)
  have t16 := own_gtF (c := c) (k := (983039 : Int32)) (983039) (by decide) (by omega)
  have t17 := own_ltF (c := c) (k := (65 : Int32)) (65) (by decide) (by omega)
  have t18 := own_ltT (c := c) (k := (97 : Int32)) (97) (by decide) (by omega)
  have t19 := own_ltT (c := c) (k := (128 : Int32)) (128) (by decide) (by omega)
  have t20 := own_ltT (c := c) (k := (192 : Int32)) (192) (by decide) (by omega)
  have t21 := own_ltT (c := c) (k := (216 : Int32)) (216) (by decide) (by omega)
  have t22 := own_ltT (c := c) (k := (248 : Int32)) (248) (by decide) (by omega)
  have t23 := own_ltT (c := c) (k := (880 : Int32)) (880) (by decide) (by omega)
  have t24 := own_ltT (c := c) (k := (895 : Int32)) (895) (by decide) (by omega)
  have t25 := own_ltT (c := c) (k := (8304 : Int32)) (8304) (by decide) (by omega)
  have t26 := own_ltT (c := c) (k := (11264 : Int32)) (11264) (by decide) (by omega)
  have t27 := own_ltT (c := c) (k := (12289 : Int32)) (12289) (by decide) (by omega)
  have t28 := own_ltT (c := c) (k := (63744 : Int32)) (63744) (by decide) (by omega)
  have t29 := own_ltT (c := c) (k := (65008 : Int32)) (65008) (by decide) (by omega)
  have t30 := own_ltT (c := c) (k := (65536 : Int32)) (65536) (by decide) (by omega)
  simp +decide only [K1_0, K1_108, K1_122, K1_150, K1_164, K1_177, K1_189, K1_19, K1_201, K1_31, K1_66, K1_80, K1_94, t0, t1, t2, t3, t4, t5, t6, t7, t8, t9, t10, t11, t12, t13, t14, t15, t16, t17, t18, t19, t20, t21, t22, t23, t24, t25, t26, t27, t28, t29, t30, if_true, if_false, ↓reduceIte]
theorem own_k4 (c : Int32) (h1 : 91 ≤ c.toInt) (h2 : c.toInt < 95) : K1_0 c = 0 := by
  exact own_k4_0 c (by omega) (by omega)
theorem own_k5_0 (c : Int32) (h1 : 95 ≤ c.toInt) (h2 : c.toInt ≤ 95) : K1_0 c = 1 := by
  have t0 := own_eqF (c := c) (k := (58 : Int32)) (58) (by decide) (by omega)
  have t1 := own_eqT (c := c) (k := (95 : Int32)) (95) (by decide) (by omega)
  have t2 := own_eqF (c := c) (k := (8204 : Int32)) (8204) (by decide) (by omega)
  have t3 := own_eqF (c := c) (k := (8205 : Int32)) (8205) (by decide) (by omega)
  have t4 := own_gtT (c := c) (k := (90 : Int32)) (90) (by decide) (by omega)
  have t5 := own_gtF (c := c) (k := (122 : Int32)) (122) (by decide) (by omega)
  have t6 := own_gtF (c := c) (k := (214 : Int32)) (214) (by decide) (by omega)
  have t7 := own_gtF (c := c) (k := (246 : Int32)) (246) (by decide) (by omega)
  have t8 := own_gtF (c := c) (k := (767 : Int32)) (767) (by decide) (by omega)
  have t9 := own_gtF (c := c) (k := (893 : Int32)) (893) (by decide) (by omega)
  have t10 := own_gtF (c := c) (k := (8191 : Int32)) (8191) (by decide) (by omega)
  have t11 := own_gtF (c := c) (k := (8591 : Int32)) (8591) (by decide) (by omega)
  have t12 := own_gtF (c := c) (k := (12271 : Int32)) (12271) (by decide) (by omega)
  have t13 := own_gtF (c := c) (k := (55295 : Int32)) (55295) (by decide) (by omega)
  have t14 := own_gtF (c := c) (k := (64975 : Int32)) (64975) (by decide) (by omega)
  have t15 := own_gtF (c := c) (k := (65533 : Int32)) (65533) (by decide) (by omega)
  have t16 := own_gtF (c := c) (k := (983039 : Int32)) (983039) (by decide) (by omega)
  have t17 := own_ltF (c := c) (k := (65 : Int32)) (65) (by decide) (by omega)
  have t18 := own_ltT (c := c) (k := (97 : Int32)) (97) (by decide) (by omega)
  have t19 := own_ltT (c := c) (k := (128 : Int32)) (128) (by decide) (by omega)
  have t20 := own_ltT (c := c) (k := (192 : Int32)) (192) (by decide) (by omega)
  have t21 := own_ltT (c := c) (k := (216 : Int32)) (216) (by decide) (by omega)
  have t22 := own_ltT (c := c) (k := (248 : Int32)) (248) (by decide) (by omega)
  have t23 := own_ltT (c := c) (k := (880 : Int32)) (880) (by decide) (by omega)
  have t24 := own_ltT (c := c) (k := (895 : Int32)) (895) (by decide) (by omega)
  have t25 := own_ltT (c := c) (k := (8304 : Int32)) (8304) (by decide) (by omega)
  have t26 := own_ltT (c := c) (k := (11264 : Int32)) (11264) (by decide) (by omega)
  have t27 := own_ltT (c := c) (k := (12289 : Int32)) (12289) (by decide) (by omega)
  have t28 := own_ltT (c := c) (k := (63744 : Int32)) (63744) (by decide) (by omega)
  have t29 := own_ltT (c := c) (k := (65008 : Int32)) (65008) (by decide) (by omega)
  have t30 := own_ltT (c := c) (k := (65536 : Int32)) (65536) (by decide) (by omega)
  simp +decide only [K1_0, K1_108, K1_122, K1_150, K1_164, K1_177, K1_189, K1_19, K1_201, K1_31, K1_66, K1_80, K1_94, t0, t1, t2, t3, t4, t5, t6, t7, t8, t9, t10, t11, t12, t13, t14, t15, t16, t17, t18, t19, t20, t21, t22, t23, t24, t25, t26, t27, t28, t29, t30, if_true, if_false, ↓reduceIte]
theorem own_k5 (c : Int32) (h1 : 95 ≤ c.toInt) (h2 : c.toInt < 96) : K1_0 c = 1 := by
  exact own_k5_0 c (by omega) (by omega)
theorem own_k6_0 (c : Int32) (h1 : 96 ≤ c.toInt) (h2 : c.toInt ≤ 96) : K1_0 c = 0 := by
  have t0 := own_eqF (c := c) (k := (58 : Int32)) (58) (by decide) (by omega)
  have t1 := own_eqF (c := c) (k := (95 : Int32)) (95) (by decide) (by omega)
  have t2 := own_eqF (c := c) (k := (8204 : Int32)) (8204) (by decide) (by omega)
  have t3 := own_eqF (c := c) (k := (8205 : Int32)) (8205) (by decide) (by omega)
  have t4 := own_gtT (c := c) (k := (90 : Int32)) (90) (by decide) (by omega)
  have t5 := own_gtF (c := c) (k := (122 : Int32)) (122) (by decide) (by omega)
  have t6 := own_gtF (c := c) (k := (214 : Int32)) (214) (by decide) (by omega)
  have t7 := own_gtF (c := c) (k := (246 : Int32)) (246) (by decide) (by omega)
  have t8 := own_gtF (c := c) (k := (767 : Int32)) (767) (by decide) (by omega)
  have t9 := own_gtF (c := c) (k := (893 : Int32)) (893) (by decide) (by omega)
  have t10 := own_gtF (c := c) (k := (8191 : Int32)) (8191) (by decide) (by omega)
  have t11 := own_gtF (c := c) (k := (8591 : Int32)) (8591) (by decide) (by omega)
  have t12 := own_gtF (c := c) (k := (12271 : Int32)) (12271) (by decide) (by omega)
  have t13 := own_gtF (c := c) (k := (55295 : Int32)) (55295) (by decide) (by omega)
  have t14 := own_gtF (c := c) (k := (64975 : Int32)) (64975) (by decide) (by omega)
  have t15 := own_gtF (c := c) (k := (65533 : Int32)) (65533) (by decide) (by omega)
  have t16 := own_gtF (c := c) (k := (983039 : Int32)) (983039) (by decide) (by omega)
  have t17 := own_ltF (c := c) (k := (65 : Int32)) (65) (by decide) (by omega)
  have t18 := own_ltT (c := c) (k := (97 : Int32)) (97) (by decide) (by omega)
  have t19 := own_ltT (c := c) (k := (128 : Int32)) (128) (by decide) (by omega)
  have t20 := own_ltT (c := c) (k := (192 : Int32)) (192) (by decide) (by omega)
  have t21 := own_ltT (c := c) (k := (216 : Int32)) (216) (by decide) (by omega)
  have t22 := own_ltT (c := c) (k := (248 : Int32)) (248) (by decide) (by omega)
  have t23 := own_ltT (c := c) (k := (880 : Int32)) (880) (by decide) (by omega)
  have t24 := own_ltT (c := c) (k := (895 : Int32)) (895) (by decide) (by omega)
  have t25 := own_ltT (c := c) (k := (8304 : Int32)) (8304) (by decide) (by omega)
  have t26 := own_ltT (c := c) (k := (11264 : Int32)) (11264) (by decide) (by omega)
  have t27 := own_ltT (c := c) (k := (12289 : Int32)) (12289) (by decide) (by omega)
  have t28 := own_ltT (c := c) (k := (63744 : Int32)) (63744) (by decide) (by omega)
  have t29 := own_ltT (c := c) (k := (65008 : Int32)) (65008) (by decide) (by omega)
  have t30 := own_ltT (c := c) (k := (65536 : Int32)) (65536) (by decide) (by omega)
  simp +decide only [K1_0, K1_108, K1_122, K1_150, K1_164, K1_177, K1_189, K1_19, K1_201, K1_31, K1_66, K1_80, K1_94, t0, t1, t2, t3, t4, t5, t6, t7, t8, t9, t10, t11, t12, t13, t14, t15, t16, t17, t18, t19, t20, t21, t22, t23, t24, t25, t26, t27, t28, t29, t30, if_true, if_false, ↓reduceIte]
theorem own_k6 (c : Int32) (h1 : 96 ≤ c.toInt) (h2 : c.toInt < 97) : K1_0 c = 0 := by
  exact own_k6_0 c (by omega) (by omega)
theorem own_k7_0 (c : Int32) (h1 : 97 ≤ c.toInt) (h2 : c.toInt ≤ 122) : K1_0 c = 1 := by
  have t0 := own_eqF (c := c) (k := (58 : Int32)) (58) (by decide) (by omega)
  have t1 := own_eqF (c := c) (k := (95 : Int32)) (95) (by decide) (by omega)
  have t2 := own_eqF (c := c) (k := (8204 : Int32)) (8204) (by decide) (by omega)
  have t3 := own_eqF (c := c) (k := (8205 : Int32)) (8205) (by decide) (by omega)
  have t4 := own_gtT (c := c) (k := (90 : Int32)) (90) (by decide) (by omega)
  have t5 := own_gtF (c := c) (k := (122 : Int32)) (122) (by decide) (by omega)
  have t6 := own_gtF (c := c) (k := (214 : Int32)) (214) (by decide) (by omega)
  have t7 := own_gtF (c := c) (k := (246 : Int32)) (246) (by decide) (by omega)
  have t8 := own_gtF (c := c) (k := (767 : Int32)) (767) (by decide) (by omega)
  have t9 := own_gtF (c := c) (k := (893 : Int32)) (893) (by decide) (by omega)
  have t10 := own_gtF (c := c) (k := (8191 : Int32)) (8191) (by decide) (by omega)
  have t11 := own_gtF (c := c) (k := (8591 : Int32)) (8591) (by decide) (by omega)
  have t12 := own_gtF (c := c) (k := (12271 : Int32)) (12271) (by decide) (by omega)
  have t13 := own_gtF (c := c) (k := (55295 : Int32)) (55295) (by decide) (by omega)
  have t14 := own_gtF (c := c) (k := (64975 : Int32)) (64975) (by decide) (by omega)
  have t15 := own_gtF (c := c) (k := (65533 : Int32)) (65533) (by decide) (by omega)
  have t16 := own_gtF (c := c) (k := (983039 : Int32)) (983039) (by decide) (by omega)
  have t17 := own_ltF (c := c) (k := (65 : Int32)) (65) (by decide) (by omega)
  have t18 := own_ltF (c := c) (k := (97 : Int32)) (97) (by decide) (by omega)
  have t19 := own_ltT (c := c) (k := (128 : Int32)) (128) (by decide) (by omega)
  have t20 := own_ltT (c := c) (k := (192 : Int32)) (192) (by decide) (by omega)
  have t21 := own_ltT (c := c) (k := (216 : Int32)) (216) (by decide) (by omega)
  have t22 := own_ltT (c := c) (k := (248 : Int32)) (248) (by decide) (by omega)
  have t23 := own_ltT (c := c) (k := (880 : Int32)) (880) (by decide) (by omega)
  have t24 := own_ltT (c := c) (k := (895 : Int32)) (895) (by decide) (by omega)
  have t25 := own_ltT (c := c) (k := (8304 : Int32)) (8304) (by decide) (by omega)
  have t26 := own_ltT (c := c) (k := (11264 : Int32)) (11264) (by decide) (by omega)
  have t27 := own_ltT (c := c) (k := (12289 : Int32)) (12289) (by decide) (by omega)
  have t28 := own_ltT (c := c) (k := (63744 : Int32)) (63744) (by decide) (by omega)
  have t29 := own_ltT (c := c) (k := (65008 : Int32)) (65008) (by decide) (by omega)
  have t30 := own_ltT (c := c) (k := (65536 : Int32)) (65536) (by decide) (by omega)
  simp +decide only [K1_0, K1_108, K1_122, K1_150, K1_164, K1_177, K1_189, K1_19, K1_201, K1_31, K1_66, K1_80, K1_94, t0, t1, t2, t3, t4, t5, t6, t7, t8, t9, t10, t11, t12, t13, t14, t15, t16, t17, t18, t19, t20, t21, t22, t23, t24, t25, t26, t27, t28, t29, t30, if_true, if_false, ↓reduceIte]
theorem own_k7 (c : Int32) (h1 : 97 ≤ c.toInt) (h2 : c.toInt < 123) : K1_0 c = 1 := by
  exact own_k7_0 c (by omega) (by omega)
theorem own_k8_0 (c : Int32) (h1 : 123 ≤ c.toInt) (h2 : c.toInt ≤ 127) : K1_0 c = 0 := by
  have t0 := own_eqF (c := c) (k := (58 : Int32)) (58) (by decide) (by omega)
  have t1 := own_eqF (c := c) (k := (95 : Int32)) (95) (by decide) (by omega)
  have t2 := own_eqF (c := c) (k := (8204 : Int32)) (8204) (by decide) (by omega)
  have t3 := own_eqF (c := c) (k := (8205 : Int32)) (8205) (by decide) (by omega)
  have t4 := own_gtT (c := c) (k := (90 : Int32)) (90) (by decide) (by omega)
  have t5 := own_gtT (c := c) (k := (122 : Int32)) (122) (by decide) (by omega)
  have t6 := own_gtF (c := c) (k := (214 : Int32)) (214) (by decide) (by omega)
  have t7 := own_gtF (c := c) (k := (246 : Int32)) (246) (by decide) (by omega)
  have t8 := own_gtF (c := c) (k := (767 : Int32)) (767) (by decide) (by omega)
  have t9 := own_gtF (c := c) (k := (893 : Int32)) (893) (by decide) (by omega)
  have t10 := own_gtF (c := c) (k := (8191 : Int32)) (8191) (by decide) (by omega)
  have t11 := own_gtF (c := c) (k := (8591 : Int32)) (8591) (by decide) (by omega)
  have t12 := own_gtF (c := c) (k := (12271 : Int32)) (12271) (by decide) (by omega)
  have t13 := own_gtF (c := c) (k := (55295 : Int32)) (55295) (by decide) (by omega)
  have t14 := own_gtF (c := c) (k := (64975 : Int32)) (64975) (by decide) (by omega)
  have t15 := own_gtF (c := c) (k := (65533 : Int32)) (65533) (by decide) (by omega)
  have t16 := own_gtF (c := c) (k := (983039 : Int32)) (983039) (by decide) (by omega)
  have t17 := own_ltF (c := c) (k := (65 : Int32)) (65) (by decide) (by omega)
  have t18 := own_ltF (c := c) (k := (97 : Int32)) (97) (by decide) (by omega)
  have t19 := own_ltT (c := c) (k := (128 : Int32)) (128) (by decide) (by omega)
  have t20 := own_ltT (c := c) (k := (192 : Int32)) (192) (by decide) (by omega)
  have t21 := own_ltT (c := c) (k := (216 : Int32)) (216) (by decide) (by omega)
  have t22 := own_ltT (c := c) (k := (248 : Int32)) (248) (by decide) (by omega)
  have t23 := own_ltT (c := c) (k := (880 : Int32)) (880) (by decide) (by omega)
  have t24 := own_ltT (c := c) (k := (895 : Int32)) (895) (by decide) (by omega)
  have t25 := own_ltT (c := c) (k := (8304 : Int32)) (8304) (by decide) (by omega)
  have t26 := own_ltT (c := c) (k := (11264 : Int32)) (11264) (by decide) (by omega)
  have t27 := own_ltT (c := c) (k := (12289 : Int32)) (12289) (by decide) (by omega)
  have t28 := own_ltT (c := c) (k := (63744 : Int32)) (63744) (by decide) (by omega)
  have t29 := own_ltT (c := c) (k := (65008 : Int32)) (65008) (by decide) (by omega)
  have t30 := own_ltT (c := c) (k := (65536 : Int32)) (65536) (by decide) (by omega)
  simp +decide only [K1_0, K1_108, K1_122, K1_150, K1_164, K1_177, K1_189, K1_19, K1_201, K1_31, K1_66, K1_80, K1_94, t0, t1, t2, t3, t4, t5, t6, t7, t8, t9, t10, t11, t12, t13, t14, t15, t16, t17, t18, t19, t20, t21, t22, t23, t24, t25, t26, t27, t28, t29, t30, if_true, if_false, ↓reduceIte]
theorem own_k8_1 (c : Int32) (h1 : 128 ≤ c.toInt) (h2 : c.toInt ≤ 191) : K1_0 c = 0 := by
  have t0 := own_eqF (c := c) (k := (58 : Int32)) (58) (by decide) (by omega)
  have t1 := own_eqF (c := c) (k := (95 : Int32)) (95) (by decide) (by omega)
  have t2 := own_eqF (c := c) (k := (8204 : Int32)) (8204) (by decide) (by omega)
  have t3 := own_eqF (c := c) (k := (8205 : Int32)) (8205) (by decide) (by omega)
  have t4 := own_gtT (c := c) (k := (90 : Int32)) (90) (by decide) (by omega)
  have t5 := own_gtT (c := c) (k := (122 : Int32)) (122) (by decide) (by omega)
  have t6 := own_gtF (c := c) (k := (214 : Int32)) (214) (by decide) (by omega)
  have t7 := own_gtF (c := c) (k := (246 : Int32)) (246) (by decide) (by omega)
  have t8 := own_gtF (c := c) (k := (767 : Int32)) (767) (by decide) (by omega)
  have t9 := own_gtF (c := c) (k := (893 : Int32)) (893) (by decide) (by omega)
  have t10 := own_gtF (c := c) (k := (8191 : Int32)) (8191) (by decide) (by omega)
  have t11 := own_gtF (c := c) (k := (8591 : Int32)) (8591) (by decide) (by omega)
  have t12 := own_gtF (c := c) (k := (12271 : Int32)) (12271) (by decide) (by omega)
  have t13 := own_gtF (c := c) (k := (55295 : Int32)) (55295) (by decide) (by omega)
  have t14 := own_gtF (c := c) (k := (64975 : Int32)) (64975) (by decide) (by omega)
  have t15 := own_gtF (c := c) (k := (65533 : Int32)) (65533) (by decide) (by omega)
  have t16 := own_gtF (c := c) (k := (983039 : Int32)) (983039) (by decide) (by omega)
  have t17 := own_ltF (c := c) (k := (65 : Int32)) (65) (by decide) (by omega)
  have t18 := own_ltF (c := c) (k := (97 : Int32)) (97) (by decide) (by omega)
  have t19 := own_ltF (c := c) (k := (128 : Int32)) (128) (by decide) (by omega)
  have t20 := own_ltT (c := c) (k := (192 : Int32)) (192) (by decide) (by omega)
  have t21 := own_ltT (c := c) (k := (216 : Int32)) (216) (by decide) (by omega)
  have t22 := own_ltT (c := c) (k := (248 : Int32)) (248) (by decide) (by omega)
  have t23 := own_ltT (c := c) (k := (880 : Int32)) (880) (by decide) (by omega)
  have t24 := own_ltT (c := c) (k := (895 : Int32)) (895) (by decide) (by omega)
  have t25 := own_ltT (c := c) (k := (8304 : Int32)) (8304) (by decide) (by omega)
  have t26 := own_ltT (c := c) (k := (11264 : Int32)) (11264) (by decide) (by omega)
  have t27 := own_ltT (c := c) (k := (12289 : Int32)) (12289) (by decide) (by omega)
  have t28 := own_ltT (c := c) (k := (63744 : Int32)) (63744) (by decide) (by omega)
  have t29 := own_ltT (c := c) (k := (65008 : Int32)) (65008) (by decide) (by omega)
  have t30 := own_ltT (c := c) (k := (65536 : Int32)) (65536) (by decide) (by omega)
  simp +decide only [K1_0, K1_108, K1_122, K1_150, K1_164, K1_177, K1_189, K1_19, K1_201, K1_31, K1_66, K1_80, K1_94, t0, t1, t2, t3, t4, t5, t6, t7, t8, t9, t10, t11, t12, t13, t14, t15, t16, t17, t18, t19, t20, t21, t22, t23, t24, t25, t26, t27, t28, t29, t30, if_true, if_false, ↓reduceIte]
theorem own_k8 (c : Int32) (h1 : 123 ≤ c.toInt) (h2 : c.toInt < 192) : K1_0 c = 0 := by
  by_cases g0 : c.toInt ≤ 127
  · exact own_k8_0 c (by omega) (by omega)
  exact own_k8_1 c (by omega) (by omega)
theorem own_k9_0 (c : Int32) (h1 : 192 ≤ c.toInt) (h2 : c.toInt ≤ 214) : K1_0 c = 1 := by
  have t0 := own_eqF (c := c) (k := (58 : Int32)) (58) (by decide) (by omega)
  have t1 := own_eqF (c := c) (k := (95 : Int32)) (95) (by decide) (by omega)
  have t2 := own_eqF (c := c) (k := (8204 : Int32)) (8204) (by decide) (by omega)
  have t3 := own_eqF (c := c) (k := (8205 : Int32)) (8205) (by decide) (by omega)
  have t4 := own_gtT (c := c) (k := (90 : Int32)) (90) (by decide) (by omega)
  have t5 := own_gtT (c := c) (k := (122 : Int32)) (122) (by decide) (by omega)
  have t6 := own_gtF (c := c) (k := (214 : Int32)) (214) (by decide) (by omega)
  have t7 := own_gtF (c := c) (k := (246 : Int32)) (246) (by decide) (by omega)
  have t8 := own_gtF (c := c) (k := (767 : Int32)) (767) (by decide) (by omega)
  have t9 := own_gtF (c := c) (k := (893 : Int32)) (893) (by decide) (by omega)
  have t10 := own_gtF (c := c) (k := (8191 : Int32)) (8191) (by decide) (by omega)
  have t11 := own_gtF (c := c) (k := (8591 : Int32)) (8591) (by decide) (by omega)
  have t12 := own_gtF (c := c) (k := (12271 : Int32)) (12271) (by decide) (by omega)
  have t13 := own_gtF (c := c) (k := (55295 : Int32)) (55295) (by decide) (by omega)
  have t14 := own_gtF (c := c) (k := (64975 : Int32)) (64975) (by decide) (by omega)
  have t15 := own_gtF (c := c) (k := (65533 : Int32)) (65533) (by decide) (by omega)
  have t16 := own_gtF (c := c) (k := (983039 : Int32)) (983039) (by decide) (by omega)
  have t17 := own_ltF (c := c) (k := (65 : Int32)) (65) (by decide) (by omega)
  have t18 := own_ltF (c := c) (k := (97 : Int32)) (97) (by decide) (by omega)
  have t19 := own_ltF (c := c) (k := (128 : Int32)) (128) (by decide) (by omega)
  have t20 := own_ltF (c := c) (k := (192 : Int32)) (192) (by decide) (by omega)
  have t21 := own_ltT (c := c) (k := (216 : Int32)) (216) (by decide) (by omega)
  have t22 := own_ltT (c := c) (k := (248 : Int32)) (248) (by decide) (by omega)
  have t23 := own_ltT (c := c) (k := (880 : Int32)) (880) (by decide) (by omega)
  have t24 := own_ltT (c := c) (k := (895 : Int32)) (895) (by decide) (by omega)
  have t25 := own_ltT (c := c) (k := (8304 : Int32)) (8304) (by decide) (by omega)
  have t26 := own_ltT (c := c) (k := (11264 : Int32)) (11264) (by decide) (by omega)
  have t27 := own_ltT (c := c) (k := (12289 : Int32)) (12289) (by decide) (by omega)
  have t28 := own_ltT (c := c) (k := (63744 : Int32)) (63744) (by decide) (by omega)
  have t29 := own_ltT (c := c) (k := (65008 : Int32)) (65008) (by decide) (by omega)
  have t30 := own_ltT (c := c) (k := (65536 : Int32)) (65536) (by decide) (by omega)
  simp +decide only [K1_0, K1_108, K1_122, K1_150, K1_164, K1_177, K1_189, K1_19, K1_201, K1_31, K1_66, K1_80, K1_94, t0, t1, t2, t3, t4, t5, t6, t7, t8, t9, t10, t11, t12, t13, t14, t15, t16, t17, t18, t19, t20, t21, t22, t23, t24, t25, t26, t27, t28, t29, t30, if_true, if_false, ↓reduceIte]
theorem own_k9 (c : Int32) (h1 : 192 ≤ c.toInt) (h2 : c.toInt < 215) : K1_0 c = 1 := by
  exact own_k9_0 c (by omega) (by omega)
theorem own_k10_0 (c : Int32) (h1 : 215 ≤ c.toInt) (h2 : c.toInt ≤ 215) : K1_0 c = 0 := by
  have t0 := own_eqF (c := c) (k := (58 : Int32)) (58) (by decide) (by omega)
  have t1 := own_eqF (c := c) (k := (95 : Int32)) (95) (by decide) (by omega)
  have t2 := own_eqF (c := c) (k := (8204 : Int32)) (8204) (by decide) (by omega)
  have t3 := own_eqF (c := c) (k := (8205 : Int32)) (8205) (by decide) (by omega)
  have t4 := own_gtT (c := c) (k := (90 : Int32)) (90) (by decide) (by omega)
  have t5 := own_gtT (c := c) (k := (122 : Int32)) (122) (by decide) (by omega)
  have t6 := own_gtT (c := c) (k := (214 : Int32)) (214) (by decide) (by omega)
  have t7 := own_gtF (c := c) (k := (246 : Int32)) (246) (by decide) (by omega)
  have t8 := own_gtF (c := c) (k := (767 : Int32)) (767) (by decide) (by omega)
  have t9 := own_gtF (c := c) (k := (893 : Int32)) (893) (by decide) (by omega)
  have t10 := own_gtF (c := c) (k := (8191 : Int32)) (8191) (by decide) (by omega)
  have t11 := own_gtF (c := c) (k := (8591 : Int32)) (8591) (by decide) (by omega)
  have t12 := own_gtF (c := c) (k := (12271 : Int32)) (12271) (by decide) (by omega)
  have t13 := own_gtF (c := c) (k := (55295 : Int32)) (55295) (by decide) (by omega)
  have t14 := own_gtF (c := c) (k := (64975 : Int32)) (64975) (by decide) (by omega)
  have t15 := own_gtF (c := c) (k := (65533 : Int32)) (65533) (by decide) (by omega)
  have t16 := own_gtF (c := c) (k := (983039 : Int32)) (983039) (by decide) (by omega)
  have t17 := own_ltF (c := c) (k := (65 : Int32)) (65) (by decide) (by omega)
  have t18 := own_ltF (c := c) (k := (97 : Int32)) (97) (by decide) (by omega)
  have t19 := own_ltF (c := c) (k := (128 : Int32)) (128) (by decide) (by omega)
  have t20 := own_ltF (c := c) (k := (192 : Int32)) (192) (by decide) (by omega)
  have t21 := own_ltT (c := c) (k := (216 : Int32)) (216) (by decide) (by omega)
  have t22 := own_ltT (c := c) (k := (248 : Int32)) (248) (by decide) (by omega)
  have t23 := own_ltT (c := c) (k := (880 : Int32)) (880) (by decide) (by omega)
  have t24 := own_ltT (c := c) (k := (895 : Int32)) (895) (by decide) (by omega)
  have t25 := own_ltT (c := c) (k := (8304 : Int32)) (8304) (by decide) (by omega)
  have t26 := own_ltT (c := c) (k := (11264 : Int32)) (11264) (by decide) (by omega)
  have t27 := own_ltT (c := c) (k := (12289 : Int32)) (12289) (by decide) (by omega)
  have t28 := own_ltT (c := c) (k := (63744 : Int32)) (63744) (by decide) (by omega)
  have t29 := own_ltT (c := c) (k := (65008 : Int32)) (65008) (by decide) (by omega)
  have t30 := own_ltT (c := c) (k := (65536 : Int32)) (65536) (by decide) (by omega)
  simp +decide only [K1_0, K1_108, K1_122, K1_150, K1_164, K1_177, K1_189, K1_19, K1_201, K1_31, K1_66, K1_80, K1_94, t0, t1, t2, t3, t4, t5, t6, t7, t8, t9, t10, t11, t12, t13, t14, t15, t16, t17, t18, t19, t20, t21, t22, t23, t24, t25, t26, t27, t28, t29, t30, if_true, if_false, ↓reduceIte]
theorem own_k10 (c : Int32) (h1 : 215 ≤ c.toInt) (h2 : c.toInt < 216) : K1_0 c = 0 := by
  exact own_k10_0 c (by omega) (by omega)
theorem own_k11_0 (c : Int32) (h1 : 216 ≤ c.toInt) (h2 : c.toInt ≤ 246) : K1_0 c = 1 := by
  have t0 := own_eqF (c := c) (k := (58 : Int32)) (58) (by decide) (by omega)
  have t1 := own_eqF (c := c) (k := (95 : Int32)) (95) (by decide) (by omega)
  have t2 := own_eqF (c := c) (k := (8204 : Int32)) (8204) (by decide) (by omega)
  have t3 := own_eqF (c := c) (k := (8205 : Int32)) (8205) (by decide) (by omega)
  have t4 := own_gtT (c := c) (k := (90 : Int32)) (90) (by decide) (by omega)
  have t5 := own_gtT (c := c) (k := (122 : Int32)) (122) (by decide) (by omega)
  have t6 := own_gtT (c := c) (k := (214 : Int32)) (214) (by decide) (by omega)
  have t7 := own_gtF (c := c) (k := (246 : Int32)) (246) (by decide) (by omega)
  have t8 := own_gtF (c := c) (k := (767 : Int32)) (767) (by decide) (by omega)
  have t9 := own_gtF (c := c) (k := (893 : Int32)) (893) (by decide) (by omega)
  have t10 := own_gtF (c := c) (k := (8191 : Int32)) (8191) (by decide) (by omega)
  have t11 := own_gtF (c := c) (k := (8591 : Int32)) (8591) (by decide) (by omega)
  have t12 := own_gtF (c := c) (k := (12271 : Int32)) (12271) (by decide) (by omega)
  have t13 := own_gtF (c := c) (k := (55295 : Int32)) (55295) (by decide) (by omega)
  have t14 := own_gtF (c := c) (k := (64975 : Int32)) (64975) (by decide) (by omega)
  have t15 := own_gtF (c := c) (k := (65533 : Int32)) (65533) (by decide) (by omega)
  have t16 := own_gtF (c := c) (k := (983039 : Int32)) (983039) (by decide) (by omega)
  have t17 := own_ltF (c := c) (k := (65 : Int32)) (65) (by decide) (by omega)
  have t18 := own_ltF (c := c) (k := (97 : Int32)) (97) (by decide) (by omega)
  have t19 := own_ltF (c := c) (k := (128 : Int32)) (128) (by decide) (by omega)
  have t20 := own_ltF (c := c) (k := (192 : Int32)) (192) (by decide) (by omega)
  have t21 := own_ltF (c := c) (k := (216 : Int32)) (216) (by decide) (by omega)
  have t22 := own_ltT (c := c) (k := (248 : Int32)) (248) (by decide) (by omega)
  have t23 := own_ltT (c := c) (k := (880 : Int32)) (880) (by decide) (by omega)
  have t24 := own_ltT (c := c) (k := (895 : Int32)) (895) (by decide) (by omega)
  have t25 := own_ltT (c := c) (k := (8304 : Int32)) (8304) (by decide) (by omega)
  have t26 := own_ltT (c := c) (k := (11264 : Int32)) (11264) (by decide) (by omega)
  have t27 := own_ltT (c := c) (k := (12289 : Int32)) (12289) (by decide) (by omega)
  have t28 := own_ltT (c := c) (k := (63744 : Int32)) (63744) (by decide) (by omega)
  have t29 := own_ltT (c := c) (k := (65008 : Int32)) (65008) (by decide) (by omega)
  have t30 := own_ltT (c := c) (k := (65536 : Int32)) (65536) (by decide) (by omega)
  simp +decide only [K1_0, K1_108, K1_122, K1_150, K1_164, K1_177, K1_189, K1_19, K1_201, K1_31, K1_66, K1_80, K1_94, t0, t1, t2, t3, t4, t5, t6, t7, t8, t9, t10, t11, t12, t13, t14, t15, t16, t17, t18, t19, t20, t21, t22, t23, t24, t25, t26, t27, t28, t29, t30, if_true, if_false, ↓reduceIte]
theorem own_k11 (c : Int32) (h1 : 216 ≤ c.toInt) (h2 : c.toInt < 247) : K1_0 c = 1 := by
  exact own_k11_0 c (by omega) (by omega)
theorem own_k12_0 (c : Int32) (h1 : 247 ≤ c.toInt) (h2 : c.toInt ≤ 247) : K1_0 c = 0 := by
  have t0 := own_eqF (c := c) (k := (58 : Int32)) (58) (by decide) (by omega)
  have t1 := own_eqF (c := c) (k := (95 : Int32)) (95) (by decide) (by omega)
  have t2 := own_eqF (c := c) (k := (8204 : Int32)) (8204) (by decide) (by omega)
  have t3 := own_eqF (c := c) (k := (8205 : Int32)) (8205) (by decide) (by omega)
  have t4 := own_gtT (c := c) (k := (90 : Int32)) (90) (by decide) (by omega)
  have t5 := own_gtT (c := c) (k := (122 : Int32)) (122) (by decide) (by omega)
  have t6 := own_gtT (c := c) (k := (214 : Int32)) (214) (by decide) (by omega)
  have t7 := own_gtT (c := c) (k := (246 : Int32)) (246) (by decide) (by omega)
  have t8 := own_gtF (c := c) (k := (767 : Int32)) (767) (by decide) (by omega)
  have t9 := own_gtF (c := c) (k := (893 : Int32)) (893) (by decide) (by omega)
  have t10 := own_gtF (c := c) (k := (8191 : Int32)) (8191) (by decide) (by omega)
  have t11 := own_gtF (c := c) (k := (8591 : Int32)) (8591) (by decide) (by omega)
  have t12 := own_gtF (c := c) (k := (12271 : Int32)) (12271) (by decide) (by omega)
  have t13 := own_gtF (c := c) (k := (55295 : Int32)) (55295) (by decide) (by omega)
  have t14 := own_gtF (c := c) (k := (64975 : Int32)) (64975) (by decide) (by omega)
  have t15 := own_gtF (c := c) (k := (65533 : Int32)) (65533) (by decide) (by omega)
  have t16 := own_gtF (c := c) (k := (983039 : Int32)) (983039) (by decide) (by omega)
  have t17 := own_ltF (c := c) (k := (65 : Int32)) (65) (by decide) (by omega)
  have t18 := own_ltF (c := c) (k := (97 : Int32)) (97) (by decide) (by omega)
  have t19 := own_ltF (c := c) (k := (128 : Int32)) (128) (by decide) (by omega)
  have t20 := own_ltF (c := c) (k := (192 : Int32)) (192) (by decide) (by omega)
  have t21 := own_ltF (c := c) (k := (216 : Int32)) (216) (by decide) (by omega)
  have t22 := own_ltT (c := c) (k := (248 : Int32)) (248) (by decide) (by omega)
  have t23 := own_ltT (c := c) (k := (880 : Int32)) (880) (by decide) (by omega)
  have t24 := own_ltT (c := c) (k := (895 : Int32)) (895) (by decide) (by omega)
  have t25 := own_ltT (c := c) (k := (8304 : Int32)) (8304) (by decide) (by omega)
  have t26 := own_ltT (c := c) (k := (11264 : Int32)) (11264) (by decide) (by omega)
  have t27 := own_ltT (c := c) (k := (12289 : Int32)) (12289) (by decide) (by omega)
  have t28 := own_ltT (c := c) (k := (63744 : Int32)) (63744) (by decide) (by omega)
  have t29 := own_ltT (c := c) (k := (65008 : Int32)) (65008) (by decide) (by omega)
  have t30 := own_ltT (c := c) (k := (65536 : Int32)) (65536) (by decide) (by omega)
  simp +decide only [K1_0, K1_108, K1_122, K1_150, K1_164, K1_177, K1_189, K1_19, K1_201, K1_31, K1_66, K1_80, K1_94, t0, t1, t2, t3, t4, t5, t6, t7, t8, t9, t10, t11, t12, t13, t14, t15, t16, t17, t18, t19, t20, t21, t22, t23, t24, t25, t26, t27, t28, t29, t30, if_true, if_false, ↓reduceIte]
theorem own_k12 (c : Int32) (h1 : 247 ≤ c.toInt) (h2 : c.toInt < 248) : K1_0 c = 0 := by
  exact own_k12_0 c (by omega) (by omega)
theorem own_k13_0 (c : Int32) (h1 : 248 ≤ c.toInt) (h2 : c.toInt ≤ 767) : K1_0 c = 1 := by
  have t0 := own_eqF (c := c) (k := (58 : Int32)) (58) (by decide) (by omega)
  have t1 := own_eqF (c := c) (k := (95 : Int32)) (95) (by decide) (by omega)
  have t2 := own_eqF (c := c) (k := (8204 : Int32)) (8204) (by decide) (by omega)
  have t3 := own_eqF (c := c) (k := (8205 : Int32)) (8205) (by decide) (by omega)
  have t4 := own_gtT (c := c) (k := (90 : Int32)) (90) (by decide) (by omega)
  have t5 := own_gtT (c := c) (k := (122 : Int32)) (122) (by decide) (by omega)
  have t6 := own_gtT (c := c) (k := (214 : Int32)) (214) (by decide) (by omega)
  have t7 := own_gtT (c := c) (k := (246 : Int32)) (246) (by decide) (by omega)
  have t8 := own_gtF (c := c) (k := (767 : Int32)) (767) (by decide) (by omega)
  have t9 := own_gtF (c := c) (k := (893 : Int32)) (893) (by decide) (by omega)
  have t10 := own_gtF (c := c) (k := (8191 : Int32)) (8191) (by decide) (by omega)
  have t11 := own_gtF (c := c) (k := (8591 : Int32)) (8591) (by decide) (by omega)
  have t12 := own_gtF (c := c) (k := (12271 : Int32)) (12271) (by decide) (by omega)
  have t13 := own_gtF (c := c) (k := (55295 : Int32)) (55295) (by decide) (by omega)
  have t14 := own_gtF (c := c) (k := (64975 : Int32)) (64975) (by decide) (by omega)
  have t15 := own_gtF (c := c) (k := (65533 : Int32)) (65533) (by decide) (by omega)
  have t16 := own_gtF (c := c) (k := (983039 : Int32)) (983039) (by decide) (by omega)
  have t17 := own_ltF (c := c) (k := (65 : Int32)) (65) (by decide) (by omega)
  have t18 := own_ltF (c := c) (k := (97 : Int32)) (97) (by decide) (by omega)
  have t19 := own_ltF (c := c) (k := (128 : Int32)) (128) (by decide) (by omega)
  have t20 := own_ltF (c := c) (k := (192 : Int32)) (192) (by decide) (by omega)
  have t21 := own_ltF (c := c) (k := (216 : Int32)) (216) (by decide) (by omega)
  have t22 := own_ltF (c := c) (k := (248 : Int32)) (248) (by decide) (by omega)
  have t23 := own_ltT (c := c) (k := (880 : Int32)) (880) (by decide) (by omega)
  have t24 := own_ltT (c := c) (k := (895 : Int32)) (895) (by decide) (by omega)
  have t25 := own_ltT (c := c) (k := (8304 : Int32)) (8304) (by decide) (by omega)
  have t26 := own_ltT (c := c) (k := (11264 : Int32)) (11264) (by decide) (by omega)
  have t27 := own_ltT (c := c) (k := (12289 : Int32)) (12289) (by decide) (by omega)
  have t28 := own_ltT (c := c) (k := (63744 : Int32)) (63744) (by decide) (by omega)
  have t29 := own_ltT (c := c) (k := (65008 : Int32)) (65008) (by decide) (by omega)
  have t30 := own_ltT (c := c) (k := (65536 : Int32)) (65536) (by decide) (by omega)
  simp +decide only [K1_0, K1_108, K1_122, K1_150, K1_164, K1_177, K1_189, K1_19, K1_201, K1_31, K1_66, K1_80, K1_94, t0, t1, t2, t3, t4, t5, t6, t7, t8, t9, t10, t11, t12, t13, t14, t15, t16, t17, t18, t19, t20, t21, t22, t23, t24, t25, t26, t27, t28, t29, t30, if_true, if_false, ↓reduceIte]
theorem own_k13 (c : Int32) (h1 : 248 ≤ c.toInt) (h2 : c.toInt < 768) : K1_0 c = 1 := by
  exact own_k13_0 c (by omega) (by omega)
theorem own_k14_0 (c : Int32) (h1 : 768 ≤ c.toInt) (h2 : c.toInt ≤ 879) : K1_0 c = 0 := by
  have t0 := own_eqF (c := c) (k := (58 : Int32)) (58) (by decide) (by omega)
  have t1 := own_eqF (c := c) (k := (95 : Int32)) (95) (by decide) (by omega)
  have t2 := own_eqF (c := c) (k := (8204 : Int32)) (8204) (by decide) (by omega)
  have t3 := own_eqF (c := c) (k := (8205 : Int32)) (8205) (by decide) (by omega)
  have t4 := own_gtT (c := c) (k := (90 : Int32)) (90) (by decide) (by omega)
  have t5 := own_gtT (c := c) (k := (122 : Int32)) (122) (by decide) (by omega)
  have t6 := own_gtT (c := c) (k := (214 : Int32)) (214) (by decide) (by omega)
  have t7 := own_gtT (c := c) (k := (246 : Int32)) (246) (by decide) (by omega)
  have t8 := own_gtT (c := c) (k := (767 : Int32)) (767) (by decide) (by omega)
  have t9 := own_gtF (c := c) (k := (893 : Int32)) (893) (by decide) (by omega)
  have t10 := own_gtF (c := c) (k := (8191 : Int32)) (8191) (by decide) (by omega)
  have t11 := own_gtF (c := c) (k := (8591 : Int32)) (8591) (by decide) (by omega)
  have t12 := own_gtF (c := c) (k := (12271 : Int32)) (12271) (by decide) (by omega)
  have t13 := own_gtF (c := c) (k := (55295 : Int32)) (55295) (by decide) (by omega)
  have t14 := own_gtF (c := c) (k := (64975 : Int32)) (64975) (by decide) (by omega)
  have t15 := own_gtF (c := c) (k := (65533 : Int32)) (65533) (by decide) (by omega)
  have t16 := own_gtF (c := c) (k := (983039 : Int32)) (983039) (by decide) (by omega)
  have t17 := own_ltF (c := c) (k := (65 : Int32)) (65) (by decide) (by omega)
  have t18 := own_ltF (c := c) (k := (97 : Int32)) (97) (by decide) (by omega)
  have t19 := own_ltF (c := c) (k := (128 : Int32)) (128) (by decide) (by omega)
  have t20 := own_ltF (c := c) (k := (192 : Int32)) (192) (by decide) (by omega)
  have t21 := own_ltF (c := c) (k := (216 : Int32)) (216) (by decide) (by omega)
  have t22 := own_ltF (c := c) (k := (248 : Int32)) (248) (by decide) (by omega)
  have t23 := own_ltT (c := c) (k := (880 : Int32)) (880) (by decide) (by omega)
  have t24 := own_ltT (c := c) (k := (895 : Int32)) (895) (by decide) (by omega)
  have t25 := own_ltT (c := c) (k := (8304 : Int32)) (8304) (by decide) (by omega)
  have t26 := own_ltT (c := c) (k := (11264 : Int32)) (11264) (by decide) (by omega)
  have t27 := own_ltT (c := c) (k := (12289 : Int32)) (12289) (by decide) (by omega)
  have t28 := own_ltT (c := c) (k := (63744 : Int32)) (63744) (by decide) (by omega)
  have t29 := own_ltT (c := c) (k := (65008 : Int32)) (65008) (by decide) (by omega)
  have t30 := own_ltT (c := c) (k := (65536 : Int32)) (65536) (by decide) (by omega)
  simp +decide only [K1_0, K1_108, K1_122, K1_150, K1_164, K1_177, K1_189, K1_19, K1_201, K1_31, K1_66, K1_80, K1_94, t0, t1, t2, t3, t4, t5, t6, t7, t8, t9, t10, t11, t12, t13, t14, t15, t16, t17, t18, t19, t20, t21, t22, t23, t24, t25, t26, t27, t28, t29, t30, if_true, if_false, ↓reduceIte]
theorem own_k14 (c : Int32) (h1 : 768 ≤ c.toInt) (h2 : c.toInt < 880) : K1_0 c = 0 := by
  exact own_k14_0 c (by omega) (by omega)
theorem own_k15_0 (c : Int32) (h1 : 880 ≤ c.toInt) (h2 : c.toInt ≤ 893) : K1_0 c = 1 := by
  have t0 := own_eqF (c := c) (k := (58 : Int32)) (58) (by decide) (by omega)
  have t1 := own_eqF (c := c) (k := (95 : Int32)) (95) (by decide) (by omega)
  have t2 := own_eqF (c := c) (k := (8204 : Int32)) (8204) (by decide) (by omega)
  have t3 := own_eqF (c := c) (k := (8205 : Int32)) (8205) (by decide) (by omega)
  have t4 := own_gtT (c := c) (k := (90 : Int32)) (90) (by decide) (by omega)
  have t5 := own_gtT (c := c) (k := (122 : Int32)) (122) (by decide) (by omega)
  have t6 := own_gtT (c := c) (k := (214 : Int32)) (214) (by decide) (by omega)
  have t7 := own_gtT (c := c) (k := (246 : Int32)) (246) (by decide) (by omega)
  have t8 := own_gtT (c := c) (k := (767 : Int32)) (767) (by decide) (by omega)
  have t9 := own_gtF (c := c) (k := (893 : Int32)) (893) (by decide) (by omega)
  have t10 := own_gtF (c := c) (k := (8191 : Int32)) (8191) (by decide) (by omega)
  have t11 := own_gtF (c := c) (k := (8591 : Int32)) (8591) (by decide) (by omega)
  have t12 := own_gtF (c := c) (k := (12271 : Int32)) (12271) (by decide) (by omega)
  have t13 := own_gtF (c := c) (k := (55295 : Int32)) (55295) (by decide) (by omega)
  have t14 := own_gtF (c := c) (k := (64975 : Int32)) (64975) (by decide) (by omega)
  have t15 := own_gtF (c := c) (k := (65533 : Int32)) (65533) (by decide) (by omega)
  have t16 := own_gtF (c := c) (k := (983039 : Int32)) (983039) (by decide) (by omega)
  have t17 := own_ltF (c := c) (k := (65 : Int32)) (65) (by decide) (by omega)
  have t18 := own_ltF (c := c) (k := (97 : Int32)) (97) (by decide) (by omega)
  have t19 := own_ltF (c := c) (k := (128 : Int32)) (128) (by decide) (by omega)
  have t20 := own_ltF (c := c) (k := (192 : Int32)) (192) (by decide) (by omega)
  have t21 := own_ltF (c := c) (k := (216 : Int32)) (216) (by decide) (by omega)
  have t22 := own_ltF (c := c) (k := (248 : Int32)) (248) (by decide) (by omega)
  have t23 := own_ltF (c := c) (k := (880 : Int32)) (880) (by decide) (by omega)
  have t24 := own_ltT (c := c) (k := (895 : Int32)) (895) (by decide) (by omega)
  have t25 := own_ltT (c := c) (k := (8304 : Int32)) (8304) (by decide) (by omega)
  have t26 := own_ltT (c := c) (k := (11264 : Int32)) (11264) (by decide) (by omega)
  have t27 := own_ltT (c := c) (k := (12289 : Int32)) (12289) (by decide) (by omega)
  have t28 := own_ltT (c := c) (k := (63744 : Int32)) (63744) (by decide) (by omega)
  have t29 := own_ltT (c := c) (k := (65008 : Int32)) (65008) (by decide) (by omega)
  have t30 := own_ltT (c := c) (k := (65536 : Int32)) (65536) (by decide) (by omega)
  simp +decide only [K1_0, K1_108, K1_122, K1_150, K1_164, K1_177, K1_189, K1_19, K1_201, K1_31, K1_66, K1_80, K1_94, t0, t1, t2, t3, t4, t5, t6, t7, t8, t9, t10, t11, t12, t13, t14, t15, t16, t17, t18, t19, t20, t21, t22, t23, t24, t25, t26, t27, t28, t29, t30, if_true, if_false, ↓reduceIte]
theorem own_k15 (c : Int32) (h1 : 880 ≤ c.toInt) (h2 : c.toInt < 894) : K1_0 c = 1 := by
  exact own_k15_0 c (by omega) (by omega)
theorem own_k16_0 (c : Int32) (h1 : 894 ≤ c.toInt) (h2 : c.toInt ≤ 894) : K1_0 c = 0 := by
  have t0 := own_eqF (c := c) (k := (58 : Int32)) (58) (by decide) (by omega)
  have t1 := own_eqF (c := c) (k := (95 : Int32)) (95) (by decide) (by omega)
  have t2 := own_eqF (c := c) (k := (8204 : Int32)) (8204) (by decide) (by omega)
  have t3 := own_eqF (c := c) (k := (8205 : Int32)) (8205) (by decide) (by omega)
  have t4 := own_gtT (c := c) (k := (90 : Int32)) (90) (by decide) (by omega)
  have t5 := own_gtT (c := c) (k := (122 : Int32)) (122) (by decide) (by omega)
  have t6 := own_gtT (c := c) (k := (214 : Int32)) (214) (by decide) (by omega)
  have t7 := own_gtT (c := c) (k := (246 : Int32)) (246) (by decide) (by omega)
  have t8 := own_gtT (c := c) (k := (767 : Int32)) (767) (by decide) (by omega)
  have t9 := own_gtT (c := c) (k := (893 : Int32)) (893) (by decide) (by omega)
  have t10 := own_gtF (c := c) (k := (8191 : Int32)) (8191) (by decide) (by omega)
  have t11 := own_gtF (c := c) (k := (8591 : Int32)) (8591) (by decide) (by omega)
  have t12 := own_gtF (c := c) (k := (12271 : Int32)) (12271) (by decide) (by omega)
  have t13 := own_gtF (c := c) (k := (55295 : Int32)) (55295) (by decide) (by omega)
  have t14 := own_gtF (c := c) (k := (64975 : Int32)) (64975) (by decide) (by omega)
  have t15 := own_gtF (c := c) (k := (65533 : Int32)) (65533) (by decide) (by omega)
  have t16 := own_gtF (c := c) (k := (983039 : Int32)) (983039) (by decide) (by omega)
  have t17 := own_ltF (c := c) (k := (65 : Int32)) (65) (by decide) (by omega)
  have t18 := own_ltF (c := c) (k := (97 : Int32)) (97) (by decide) (by omega)
  have t19 := own_ltF (c := c) (k := (128 : Int32)) (128) (by decide) (by omega)
  have t20 := own_ltF (c := c) (k := (192 : Int32)) (192) (by decide) (by omega)
  have t21 := own_ltF (c := c) (k := (216 : Int32)) (216) (by decide) (by omega)
  have t22 := own_ltF (c := c) (k := (248 : Int32)) (248) (by decide) (by omega)
  have t23 := own_ltF (c := c) (k := (880 : Int32)) (880) (by decide) (by omega)
  have t24 := own_ltT (c := c) (k := (895 : Int32)) (895) (by decide) (by omega)
  have t25 := own_ltT (c := c) (k := (8304 : Int32)) (8304) (by decide) (by omega)
  have t26 := own_ltT (c := c) (k := (11264 : Int32)) (11264) (by decide) (by omega)
  have t27 := own_ltT (c := c) (k := (12289 : Int32)) (12289) (by decide) (by omega)
  have t28 := own_ltT (c := c) (k := (63744 : Int32)) (63744) (by decide) (by omega)
  have t29 := own_ltT (c := c) (k := (65008 : Int32)) (65008) (by decide) (by omega)
  have t30 := own_ltT (c := c) (k := (65536 : Int32)) (65536) (by decide) (by omega)
  simp +decide only [K1_0, K1_108, K1_122, K1_150, K1_164, K1_177, K1_189, K1_19, K1_201, K1_31, K1_66, K1_80, K1_94, t0, t1, t2, t3, t4, t5, t6, t7, t8, t9, t10, t11, t12, t13, t14, t15, t16, t17, t18, t19, t20, t21, t22, t23, t24, t25, t26, t27, t28, t29, t30, if_true, if_false, ↓reduceIte]
theorem own_k16 (c : Int32) (h1 : 894 ≤ c.toInt) (h2 : c.toInt < 895) : K1_0 c = 0 := by
  exact own_k16_0 c (by omega) (by omega)
theorem own_k17_0 (c : Int32) (h1 : 895 ≤ c.toInt) (h2 : c.toInt ≤ 8191) : K1_0 c = 1 := by
  have t0 := own_eqF (c := c) (k := (58 : Int32)) (58) (by decide) (by omega)
  have t1 := own_eqF (c := c) (k := (95 : Int32)) (95) (by decide) (by omega)
  have t2 := own_eqF (c := c) (k := (8204 : Int32)) (8204) (by decide) (by omega)
  have t3 := own_eqF (c := c) (k := (8205 : Int32)) (8205) (by decide) (by omega)
  have t4 := own_gtT (c := c) (k := (90 : Int32)) (90) (by decide) (by omega)
  have t5 := own_gtT (c := c) (k := (122 : Int32)) (122) (by decide) (by omega)
  have t6 := own_gtT (c := c) (k := (214 : Int32)) (214) (by decide) (by omega)
  have t7 := own_gtT (c := c) (k := (246 : Int32)) (246) (by decide) (by omega)
  have t8 := own_gtT (c := c) (k := (767 : Int32)) (767) (by decide) (by omega)
  have t9 := own_gtT (c := c) (k := (893 : Int32)) (893) (by decide) (by omega)
  have t10 := own_gtF (c := c) (k := (8191 : Int32)) (8191) (by decide) (by omega)
  have t11 := own_gtF (c := c) (k := (8591 : Int32)) (8591) (by decide) (by omega)
  have t12 := own_gtF (c := c) (k := (12271 : Int32)) (12271) (by decide) (by omega)
  have t13 := own_gtF (c := c) (k := (55295 : Int32)) (55295) (by decide) (by omega)
  have t14 := own_gtF (c := c) (k := (64975 : Int32)) (64975) (by decide) (by omega)
  have t15 := own_gtF (c := c) (k := (65533 : Int32)) (65533) (by decide) (by omega)
  have t16 := own_gtF (c := c) (k := (983039 : Int32)) (983039) (by decide) (by omega)
  have t17 := own_ltF (c := c) (k := (65 : Int32)) (65) (by decide) (by omega)
  have t18 := own_ltF (c := c) (k := (97 : Int32)) (97) (by decide) (by omega)
  have t19 := own_ltF (c := c) (k := (128 : Int32)) (128) (by decide) (by omega)
  have t20 := own_ltF (c := c) (k := (192 : Int32)) (192) (by decide) (by omega)
  have t21 := own_ltF (c := c) (k := (216 : Int32)) (216) (by decide) (by omega)
  have t22 := own_ltF (c := c) (k := (248 : Int32)) (248) (by decide) (by omega)
  have t23 := own_ltF (c := c) (k := (880 : Int32)) (880) (by decide) (by omega)
  have t24 := own_ltF (c := c) (k := (895 : Int32)) (895) (by decide) (by omega)
  have t25 := own_ltT (c := c) (k := (8304 : Int32)) (8304) (by decide) (by omega)
  have t26 := own_ltT (c := c) (k := (11264 : Int32)) (11264) (by decide) (by omega)
  have t27 := own_ltT (c := c) (k := (12289 : Int32)) (12289) (by decide) (by omega)
  have t28 := own_ltT (c := c) (k := (63744 : Int32)) (63744) (by decide) (by omega)
  have t29 := own_ltT (c := c) (k := (65008 : Int32)) (65008) (by decide) (by omega)
  have t30 := own_ltT (c := c) (k := (65536 : Int32)) (65536) (by decide) (by omega)
  simp +decide only [K1_0, K1_108, K1_122, K1_150, K1_164, K1_177, K1_189, K1_19, K1_201, K1_31, K1_66, K1_80, K1_94, t0, t1, t2, t3, t4, t5, t6, t7, t8, t9, t10, t11, t12, t13, t14, t15, t16, t17, t18, t19, t20, t21, t22, t23, t24, t25, t26, t27, t28, t29, t30, if_true, if_false, ↓reduceIte]
theorem own_k17 (c : Int32) (h1 : 895 ≤ c.toInt) (h2 : c.toInt < 8192) : K1_0 c = 1 := by
  exact own_k17_0 c (by omega) (by omega)
theorem own_k18_0 (c : Int32) (h1 : 8192 ≤ c.toInt) (h2 : c.toInt ≤ 8203) : K1_0 c = 0 := by
  have t0 := own_eqF (c := c) (k := (58 : Int32)) (58) (by decide) (by omega)
  have t1 := own_eqF (c := c) (k := (95 : Int32)) (95) (by decide) (by omega)
  have t2 := own_eqF (c := c) (k := (8204 : Int32)) (8204) (by decide) (by omega)
  have t3 := own_eqF (c := c) (k := (8205 : Int32)) (8205) (by decide) (by omega)
  have t4 := own_gtT (c := c) (k := (90 : Int32)) (90) (by decide) (by omega)
  have t5 := own_gtT (c := c) (k := (122 : Int32)) (122) (by decide) (by omega)
  have t6 := own_gtT (c := c) (k := (214 : Int32)) (214) (by decide) (by omega)
  have t7 := own_gtT (c := c) (k := (246 : Int32)) (246) (by decide) (by omega)
  have t8 := own_gtT (c := c) (k := (767 : Int32)) (767) (by decide) (by omega)
  have t9 := own_gtT (c := c) (k := (893 : Int32)) (893) (by decide) (by omega)
  have t10 := own_gtT (c := c) (k := (8191 : Int32)) (8191) (by decide) (by omega)
  have t11 := own_gtF (c := c) (k := (8591 : Int32)) (8591) (by decide) (by omega)
  have t12 := own_gtF (c := c) (k := (12271 : Int32)) (12271) (by decide) (by omega)
  have t13 := own_gtF (c := c) (k := (55295 : Int32)) (55295) (by decide) (by omega)
  have t14 := own_gtF (c := c) (k := (64975 : Int32)) (64975) (by decide) (by omega)
  have t15 := own_gtF (c := c) (k := (65533 : Int32)) (65533) (by decide) (by omega)
  have t16 := own_gtF (c := c) (k := (983039 : Int32)) (983039) (by decide) (by omega)
  have t17 := own_ltF (c := c) (k := (65 : Int32)) (65) (by decide) (by omega)
  have t18 := own_ltF (c := c) (k := (97 : Int32)) (97) (by decide) (by omega)
  have t19 := own_ltF (c := c) (k := (128 : Int32)) (128) (by decide) (by omega)
  have t20 := own_ltF (c := c) (k := (192 : Int32)) (192) (by decide) (by omega)
  have t21 := own_ltF (c := c) (k := (216 : Int32)) (216) (by decide) (by omega)
  have t22 := own_ltF (c := c) (k := (248 : Int32)) (248) (by decide) (by omega)
  have t23 := own_ltF (c := c) (k := (880 : Int32)) (880) (by decide) (by omega)
  have t24 := own_ltF (c := c) (k := (895 : Int32)) (895) (by decide) (by omega)
  have t25 := own_ltT (c := c) (k := (8304 : Int32)) (8304) (by decide) (by omega)
  have t26 := own_ltT (c := c) (k := (11264 : Int32)) (11264) (by decide) (by omega)
  have t27 := own_ltT (c := c) (k := (12289 : Int32)) (12289) (by decide) (by omega)
  have t28 := own_ltT (c := c) (k := (63744 : Int32)) (63744) (by decide) (by omega)
  have t29 := own_ltT (c := c) (k := (65008 : Int32)) (65008) (by decide) (by omega)
  have t30 := own_ltT (c := c) (k := (65536 : Int32)) (65536) (by decide) (by omega)
  simp +decide only [K1_0, K1_108, K1_122, K1_150, K1_164, K1_177, K1_189, K1_19, K1_201, K1_31, K1_66, K1_80, K1_94, t0, t1, t2, t3, t4, t5, t6, t7, t8, t9, t10, t11, t12, t13, t14, t15, t16, t17, t18, t19, t20, t21, t22, t23, t24, t25, t26, t27, t28, t29, t30, if_true, if_false, ↓reduceIte]
theorem own_k18 (c : Int32) (h1 : 8192 ≤ c.toInt) (h2 : c.toInt < 8204) : K1_0 c = 0 := by
  exact own_k18_0 c (by omega) (by omega)
theorem own_k19_0 (c : Int32) (h1 : 8204 ≤ c.toInt) (h2 : c.toInt ≤ 8204) : K1_0 c = 1 := by
  have t0 := own_eqF (c := c) (k := (58 : Int32)) (58) (by decide) (by omega)
  have t1 := own_eqF (c := c) (k := (95 : Int32)) (95) (by decide) (by omega)
  have t2 := own_eqT (c := c) (k := (8204 : Int32)) (8204) (by decide) (by omega)
  have t3 := own_eqF (c := c) (k := (8205 : Int32)) (8205) (by decide) (by omega)
  have t4 := own_gtT (c := c) (k := (90 : Int32)) (90) (by decide) (by omega)
  have t5 := own_gtT (c := c) (k := (122 : Int32)) (122) (by decide) (by omega)
  have t6 := own_gtT (c := c) (k := (214 : Int32)) (214) (by decide) (by omega)
  have t7 := own_gtT (c := c) (k := (246 : Int32)) (246) (by decide) (by omega)
  have t8 := own_gtT (c := c) (k := (767 : Int32)) (767) (by decide) (by omega)
  have t9 := own_gtT (c := c) (k := (893 : Int32)) (893) (by decide) (by omega)
  have t10 := own_gtT (c := c) (k := (8191 : Int32)) (8191) (by decide) (by omega)
  have t11 := own_gtF (c := c) (k := (8591 : Int32)) (8591) (by decide) (by omega)
  have t12 := own_gtF (c := c) (k := (12271 : Int32)) (12271) (by decide) (by omega)
  have t13 := own_gtF (c := c) (k := (55295 : Int32)) (55295) (by decide) (by omega)
  have t14 := own_gtF (c := c) (k := (64975 : Int32)) (64975) (by decide) (by omega)
  have t15 := own_gtF (c := c) (k := (65533 : Int32)) (65533) (by decide) (by omega)
  have t16 := own_gtF (c := c) (k := (983039 : Int32)) (983039) (by decide) (by omega)
  have t17 := own_ltF (c := c) (k := (65 : Int32)) (65) (by decide) (by omega)
  have t18 := own_ltF (c := c) (k := (97 : Int32)) (97) (by decide) (by omega)
  have t19 := own_ltF (c := c) (k := (128 : Int32)) (128) (by decide) (by omega)
  have t20 := own_ltF (c := c) (k := (192 : Int32)) (192) (by decide) (by omega)
  have t21 := own_ltF (c := c) (k := (216 : Int32)) (216) (by decide) (by omega)
  have t22 := own_ltF (c := c) (k := (248 : Int32)) (248) (by decide) (by omega)
  have t23 := own_ltF (c := c) (k := (880 : Int32)) (880) (by decide) (by omega)
  have t24 := own_ltF (c := c) (k := (895 : Int32)) (895) (by decide) (by omega)
  have t25 := own_ltT (c := c) (k := (8304 : Int32)) (8304) (by decide) (by omega)
  have t26 := own_ltT (c := c) (k := (11264 : Int32)) (11264) (by decide) (by omega)
  have t27 := own_ltT (c := c) (k := (12289 : Int32)) (12289) (by decide) (by omega)
  have t28 := own_ltT (c := c) (k := (63744 : Int32)) (63744) (by decide) (by omega)
  have t29 := own_ltT (c := c) (k := (65008 : Int32)) (65008) (by decide) (by omega)
  have t30 := own_ltT (c := c) (k := (65536 : Int32)) (65536) (by decide) (by omega)
  simp +decide only [K1_0, K1_108, K1_122, K1_150, K1_164, K1_177, K1_189, K1_19, K1_201, K1_31, K1_66, K1_80, K1_94, t0, t1, t2, t3, t4, t5, t6, t7, t8, t9, t10, t11, t12, t13, t14, t15, t16, t17, t18, t19, t20, t21, t22, t23, t24, t25, t26, t27, t28, t29, t30, if_true, if_false, ↓reduceIte]
theorem own_k19_1 (c : Int32) (h1 : 8205 ≤ c.toInt) (h2 : c.toInt ≤ 8205) : K1_0 c = 1 := by
  have t0 := own_eqF (c := c) (k := (58 : Int32)) (58) (by decide) (by omega)
  have t1 := own_eqF (c := c) (k := (95 : Int32)) (95) (by decide) (by omega)
  have t2 := own_eqF (c := c) (k := (8204 : Int32)) (8204) (by decide) (by omega)
  have t3 := own_eqT (c := c) (k := (8205 : Int32)) (8205) (by decide) (by omega)
  have t4 := own_gtT (c := c) (k := (90 : Int32)) (90) (by decide) (by omega)
  have t5 := own_gtT (c := c) (k := (122 : Int32)) (122) (by decide) (by omega)
  have t6 := own_gtT (c := c) (k := (214 : Int32)) (214) (by decide) (by omega)
  have t7 := own_gtT (c := c) (k := (246 : Int32)) (246) (by decide) (by omega)
  have t8 := own_gtT (c := c) (k := (767 : Int32)) (767) (by decide) (by omega)
  have t9 := own_gtT (c := c) (k := (893 : Int32)) (893) (by decide) (by omega)
  have t10 := own_gtT (c := c) (k := (8191 : Int32)) (8191) (by decide) (by omega)
  have t11 := own_gtF (c := c) (k := (8591 : Int32)) (8591) (by decide) (by omega)
  have t12 := own_gtF (c := c) (k := (12271 : Int32)) (12271) (by decide) (by omega)
  have t13 := own_gtF (c := c) (k := (55295 : Int32)) (55295) (by decide) (by omega)
  have t14 := own_gtF (c := c) (k := (64975 : Int32)) (64975) (by decide) (by omega)
  have t15 := own_gtF (c := c) (k := (65533 : Int32)) (65533) (by decide) (by omega)
  have t16 := own_gtF (c := c) (k := (983039 : Int32)) (983039) (by decide) (by omega)
  have t17 := own_ltF (c := c) (k := (65 : Int32)) (65) (by decide) (by omega)
  have t18 := own_ltF (c := c) (k := (97 : Int32)) (97) (by decide) (by omega)
  have t19 := own_ltF (c := c) (k := (128 : Int32)) (128) (by decide) (by omega)
  have t20 := own_ltF (c := c) (k := (192 : Int32)) (192) (by decide) (by omega)
  have t21 := own_ltF (c := c) (k := (216 : Int32)) (216) (by decide) (by omega)
  have t22 := own_ltF (c := c) (k := (248 : Int32)) (248) (by decide) (by omega)
  have t23 := own_ltF (c := c) (k := (880 : Int32)) (880) (by decide) (by omega)
  have t24 := own_ltF (c := c) (k := (895 : Int32)) (895) (by decide) (by omega)
  have t25 := own_ltT (c := c) (k := (8304 : Int32)) (8304) (by decide) (by omega)
  have t26 := own_ltT (c := c) (k := (11264 : Int32)) (11264) (by decide) (by omega)
  have t27 := own_ltT (c := c) (k := (12289 : Int32)) (12289) (by decide) (by omega)
  have t28 := own_ltT (c := c) (k := (63744 : Int32)) (63744) (by decide) (by omega)
  have t29 := own_ltT (c := c) (k := (65008 : Int32)) (65008) (by decide) (by omega)
  have t30 := own_ltT (c := c) (k := (65536 : Int32)) (65536) (by decide) (by omega)
  simp +decide only [K1_0, K1_108, K1_122, K1_150, K1_164, K1_177, K1_189, K1_19, K1_201, K1_31, K1_66, K1_80, K1_94, t0, t1, t2, t3, t4, t5, t6, t7, t8, t9, t10, t11, t12, t13, t14, t15, t16, t17, t18, t19, t20, t21, t22, t23, t24, t25, t26, t27, t28, t29, t30, if_true, if_false, ↓reduceIte]
theorem own_k19 (c : Int32) (h1 : 8204 ≤ c.toInt) (h2 : c.toInt < 8206) : K1_0 c = 1 := by
  by_cases g0 : c.toInt ≤ 8204
  · exact own_k19_0 c (by omega) (by omega)
  exact own_k19_1 c (by omega) (by omega)
theorem own_k20_0 (c : Int32) (h1 : 8206 ≤ c.toInt) (h2 : c.toInt ≤ 8303) : K1_0 c = 0 := by
  have t0 := own_eqF (c := c) (k := (58 : Int32)) (58) (by decide) (by omega)
  have t1 := own_eqF (c := c) (k := (95 : Int32)) (95) (by decide) (by omega)
  have t2 := own_eqF (c := c) (k := (8204 : Int32)) (8204) (by decide) (by omega)
  have t3 := own_eqF (c := c) (k := (8205 : Int32)) (8205) (by decide) (by omega)
  have t4 := own_gtT (c := c) (k := (90 : Int32)) (90) (by decide) (by omega)
  have t5 := own_gtT (c := c) (k := (122 : Int32)) (122) (by decide) (by omega)
  have t6 := own_gtT (c := c) (k := (214 : Int32)) (214) (by decide) (by omega)
  have t7 := own_gtT (c := c) (k := (246 : Int32)) (246) (by decide) (by omega)
  have t8 := own_gtT (c := c) (k := (767 : Int32)) (767) (by decide) (by omega)
  have t9 := own_gtT (c := c) (k := (893 : Int32)) (893) (by decide) (by omega)
  have t10 := own_gtT (c := c) (k := (8191 : Int32)) (8191) (by decide) (by omega)
  have t11 := own_gtF (c := c) (k := (8591 : Int32)) (8591) (by decide) (by omega)
  have t12 := own_gtF (c := c) (k := (12271 : Int32)) (12271) (by decide) (by omega)
  have t13 := own_gtF (c := c) (k := (55295 : Int32)) (55295) (by decide) (by omega)
  have t14 := own_gtF (c := c) (k := (64975 : Int32)) (64975) (by decide) (by omega)
  have t15 := own_gtF (c := c) (k := (65533 : Int32)) (65533) (by decide) (by omega)
  have t16 := own_gtF (c := c) (k := (983039 : Int32)) (983039) (by decide) (by omega)
  have t17 := own_ltF (c := c) (k := (65 : Int32)) (65) (by decide) (by omega)
  have t18 := own_ltF (c := c) (k := (97 : Int32)) (97) (by decide) (by omega)
  have t19 := own_ltF (c := c) (k := (128 : Int32)) (128) (by decide) (by omega)
  have t20 := own_ltF (c := c) (k := (192 : Int32)) (192) (by decide) (by omega)
  have t21 := own_ltF (c := c) (k := (216 : Int32)) (216) (by decide) (by omega)
  have t22 := own_ltF (c := c) (k := (248 : Int32)) (248) (by decide) (by omega)
  have t23 := own_ltF (c := c) (k := (880 : Int32)) (880) (by decide) (by omega)
  have t24 := own_ltF (c := c) (k := (895 : Int32)) (895) (by decide) (by omega)
  have t25 := own_ltT (c := c) (k := (8304 : Int32)) (8304) (by decide) (by omega)
  have t26 := own_ltT (c := c) (k := (11264 : Int32)) (11264) (by decide) (by omega)
  have t27 := own_ltT (c := c) (k := (12289 : Int32)) (12289) (by decide) (by omega)
  have t28 := own_ltT (c := c) (k := (63744 : Int32)) (63744) (by decide) (by omega)
  have t29 := own_ltT (c := c) (k := (65008 : Int32)) (65008) (by decide) (by omega)
  have t30 := own_ltT (c := c) (k := (65536 : Int32)) (65536) (by decide) (by omega)
  simp +decide only [K1_0, K1_108, K1_122, K1_150, K1_164, K1_177, K1_189, K1_19, K1_201, K1_31, K1_66, K1_80, K1_94, t0, t1, t2, t3, t4, t5, t6, t7, t8, t9, t10, t11, t12, t13, t14, t15, t16, t17, t18, t19, t20, t21, t22, t23, t24, t25, t26, t27, t28, t29, t30, if_true, if_false, ↓reduceIte]
theorem own_k20 (c : Int32) (h1 : 8206 ≤ c.toInt) (h2 : c.toInt < 8304) : K1_0 c = 0 := by
  exact own_k20_0 c (by omega) (by omega)
theorem own_k21_0 (c : Int32) (h1 : 8304 ≤ c.toInt) (h2 : c.toInt ≤ 8591) : K1_0 c = 1 := by
  have t0 := own_eqF (c := c) (k := (58 : Int32)) (58) (by decide) (by omega)
  have t1 := own_eqF (c := c) (k := (95 : Int32)) (95) (by decide) (by omega)
  have t2 := own_eqF (c := c) (k := (8204 : Int32)) (8204) (by decide) (by omega)
  have t3 := own_eqF (c := c) (k := (8205 : Int32)) (8205) (by decide) (by omega)
  have t4 := own_gtT (c := c) (k := (90 : Int32)) (90) (by decide) (by omega)
  have t5 := own_gtT (c := c) (k := (122 : Int32)) (122) (by decide) (by omega)
  have t6 := own_gtT (c := c) (k := (214 : Int32)) (214) (by decide) (by omega)
  have t7 := own_gtT (c := c) (k := (246 : Int32)) (246) (by decide) (by omega)
  have t8 := own_gtT (c := c) (k := (767 : Int32)) (767) (by decide) (by omega)
  have t9 := own_gtT (c := c) (k := (893 : Int32)) (893) (by decide) (by omega)
  have t10 := own_gtT (c := c) (k := (8191 : Int32)) (8191) (by decide) (by omega)
  have t11 := own_gtF (c := c) (k := (8591 : Int32)) (8591) (by decide) (by omega)
  have t12 := own_gtF (c := c) (k := (12271 : Int32)) (12271) (by decide) (by omega)
  have t13 := own_gtF (c := c) (k := (55295 : Int32)) (55295) (by decide) (by omega)
  have t14 := own_gtF (c := c) (k := (64975 : Int32)) (64975) (by decide) (by omega)
  have t15 := own_gtF (c := c) (k := (65533 : Int32)) (65533) (by decide) (by omega)
  have t16 := own_gtF (c := c) (k := (983039 : Int32)) (983039) (by decide) (by omega)
  have t17 := own_ltF (c := c) (k := (65 : Int32)) (65) (by decide) (by omega)
  have t18 := own_ltF (c := c) (k := (97 : Int32)) (97) (by decide) (by omega)
  have t19 := own_ltF (c := c) (k := (128 : Int32)) (128) (by decide) (by omega)
  have t20 := own_ltF (c := c) (k := (192 : Int32)) (192) (by decide) (by omega)
  have t21 := own_ltF (c := c) (k := (216 : Int32)) (216) (by decide) (by omega)
  have t22 := own_ltF (c := c) (k := (248 : Int32)) (248) (by decide) (by omega)
  have t23 := own_ltF (c := c) (k := (880 : Int32)) (880) (by decide) (by omega)
  have t24 := own_ltF (c := c) (k := (895 : Int32)) (895) (by decide) (by omega)
  have t25 := own_ltF (c := c) (k := (8304 : Int32)) (8304) (by decide) (by omega)
  have t26 := own_ltT (c := c) (k := (11264 : Int32)) (11264) (by decide) (by omega)
  have t27 := own_ltT (c := c) (k := (12289 : Int32)) (12289) (by decide) (by omega)
  have t28 := own_ltT (c := c) (k := (63744 : Int32)) (63744) (by decide) (by omega)
  have t29 := own_ltT (c := c) (k := (65008 : Int32)) (65008) (by decide) (by omega)
  have t30 := own_ltT (c := c) (k := (65536 : Int32)) (65536) (by decide) (by omega)
  simp +decide only [K1_0, K1_108, K1_122, K1_150, K1_164, K1_177, K1_189, K1_19, K1_201, K1_31, K1_66, K1_80, K1_94, t0, t1, t2, t3, t4, t5, t6, t7, t8, t9, t10, t11, t12, t13, t14, t15, t16, t17, t18, t19, t20, t21, t22, t23, t24, t25, t26, t27, t28, t29, t30, if_true, if_false, ↓reduceIte]
theorem own_k21 (c : Int32) (h1 : 8304 ≤ c.toInt) (h2 : c.toInt < 8592) : K1_0 c = 1 := by
  exact own_k21_0 c (by omega) (by omega)
theorem own_k22_0 (c : Int32) (h1 : 8592 ≤ c.toInt) (h2 : c.toInt ≤ 11263) : K1_0 c = 0 := by
  have t0 := own_eqF (c := c) (k := (58 : Int32)) (58) (by decide) (by omega)
  have t1 := own_eqF (c := c) (k := (95 : Int32)) (95) (by decide) (by omega)
  have t2 := own_eqF (c := c) (k := (8204 : Int32)) (8204) (by decide) (by omega)
  have t3 := own_eqF (c := c) (k := (8205 : Int32)) (8205) (by decide) (by omega)
  have t4 := own_gtT (c := c) (k := (90 : Int32)) (90) (by decide) (by omega)
  have t5 := own_gtT (c := c) (k := (122 : Int32)) (122) (by decide) (by omega)
  have t6 := own_gtT (c := c) (k := (214 : Int32)) (214) (by decide) (by omega)
  have t7 := own_gtT (c := c) (k := (246 : Int32)) (246) (by decide) (by omega)
  have t8 := own_gtT (c := c) (k := (767 : Int32)) (767) (by decide) (by omega)
  have t9 := own_gtT (c := c) (k := (893 : Int32)) (893) (by decide) (by omega)
  have t10 := own_gtT (c := c) (k := (8191 : Int32)) (8191) (by decide) (by omega)
  have t11 := own_gtT (c := c) (k := (8591 : Int32)) (8591) (by decide) (by omega)
  have t12 := own_gtF (c := c) (k := (12271 : Int32)) (12271) (by decide) (by omega)
  have t13 := own_gtF (c := c) (k := (55295 : Int32)) (55295) (by decide) (by omega)
  have t14 := own_gtF (c := c) (k := (64975 : Int32)) (64975) (by decide) (by omega)
  have t15 := own_gtF (c := c) (k := (65533 : Int32)) (65533) (by decide) (by omega)
  have t16 := own_gtF (c := c) (k := (983039 : Int32)) (983039) (by decide) (by omega)
  have t17 := own_ltF (c := c) (k := (65 : Int32)) (65) (by decide) (by omega)
  have t18 := own_ltF (c := c) (k := (97 : Int32)) (97) (by decide) (by omega)
  have t19 := own_ltF (c := c) (k := (128 : Int32)) (128) (by decide) (by omega)
  have t20 := own_ltF (c := c) (k := (192 : Int32)) (192) (by decide) (by omega)
  have t21 := own_ltF (c := c) (k := (216 : Int32)) (216) (by decide) (by omega)
  have t22 := own_ltF (c := c) (k := (248 : Int32)) (248) (by decide) (by omega)
  have t23 := own_ltF (c := c) (k := (880 : Int32)) (880) (by decide) (by omega)
  have t24 := own_ltF (c := c) (k := (895 : Int32)) (895) (by decide) (by omega)
  have t25 := own_ltF (c := c) (k := (8304 : Int32)) (8304) (by decide) (by omega)
  have t26 := own_ltT (c := c) (k := (11264 : Int32)) (11264) (by decide) (by omega)
  have t27 := own_ltT (c := c) (k := (12289 : Int32)) (12289) (by decide) (by omega)
  have t28 := own_ltT (c := c) (k := (63744 : Int32)) (63744) (by decide) (by omega)
  have t29 := own_ltT (c := c) (k := (65008 : Int32)) (65008) (by decide) (by omega)
  have t30 := own_ltT (c := c) (k := (65536 : Int32)) (65536) (by decide) (by omega)
  simp +decide only [K1_0, K1_108, K1_122, K1_150, K1_164, K1_177, K1_189, K1_19, K1_201, K1_31, K1_66, K1_80, K1_94, t0, t1, t2, t3, t4, t5, t6, t7, t8, t9, t10, t11, t12, t13, t14, t15, t16, t17, t18, t19, t20, t21, t22, t23, t24, t25, t26, t27, t28, t29, t30, if_true, if_false, ↓reduceIte]
theorem own_k22 (c : Int32) (h1 : 8592 ≤ c.toInt) (h2 : c.toInt < 11264) : K1_0 c = 0 := by
  exact own_k22_0 c (by omega) (by omega)
theorem own_k23_0 (c : Int32) (h1 : 11264 ≤ c.toInt) (h2 : c.toInt ≤ 12271) : K1_0 c = 1 := by
  have t0 := own_eqF (c := c) (k := (58 : Int32)) (58) (by decide) (by omega)
  have t1 := own_eqF (c := c) (k := (95 : Int32)) (95) (by decide) (by omega)
  have t2 := own_eqF (c := c) (k := (8204 : Int32)) (8204) (by decide) (by omega)
  have t3 := own_eqF (c := c) (k := (8205 : Int32)) (8205) (by decide) (by omega)
  have t4 := own_gtT (c := c) (k := (90 : Int32)) (90) (by decide) (by omega)
  have t5 := own_gtT (c := c) (k := (122 : Int32)) (122) (by decide) (by omega)
  have t6 := own_gtT (c := c) (k := (214 : Int32)) (214) (by decide) (by omega)
  have t7 := own_gtT (c := c) (k := (246 : Int32)) (246) (by decide) (by omega)
  have t8 := own_gtT (c := c) (k := (767 : Int32)) (767) (by decide) (by omega)
  have t9 := own_gtT (c := c) (k := (893 : Int32)) (893) (by decide) (by omega)
  have t10 := own_gtT (c := c) (k := (8191 : Int32)) (8191) (by decide) (by omega)
  have t11 := own_gtT (c := c) (k := (8591 : Int32)) (8591) (by decide) (by omega)
  have t12 := own_gtF (c := c) (k := (12271 : Int32)) (12271) (by decide) (by omega)
  have t13 := own_gtF (c := c) (k := (55295 : Int32)) (55295) (by decide) (by omega)
  have t14 := own_gtF (c := c) (k := (64975 : Int32)) (64975) (by decide) (by omega)
  have t15 := own_gtF (c := c) (k := (65533 : Int32)) (65533) (by decide) (by omega)
  have t16 := own_gtF (c := c) (k := (983039 : Int32)) (983039) (by decide) (by omega)
  have t17 := own_ltF (c := c) (k := (65 : Int32)) (65) (by decide) (by omega)
  have t18 := own_ltF (c := c) (k := (97 : Int32)) (97) (by decide) (by omega)
  have t19 := own_ltF (c := c) (k := (128 : Int32)) (128) (by decide) (by omega)
  have t20 := own_ltF (c := c) (k := (192 : Int32)) (192) (by decide) (by omega)
  have t21 := own_ltF (c := c) (k := (216 : Int32)) (216) (by decide) (by omega)
  have t22 := own_ltF (c := c) (k := (248 : Int32)) (248) (by decide) (by omega)
  have t23 := own_ltF (c := c) (k := (880 : Int32)) (880) (by decide) (by omega)
  have t24 := own_ltF (c := c) (k := (895 : Int32)) (895) (by decide) (by omega)
  have t25 := own_ltF (c := c) (k := (8304 : Int32)) (8304) (by decide) (by omega)
  have t26 := own_ltF (c := c) (k := (11264 : Int32)) (11264) (by decide) (by omega)
  have t27 := own_ltT (c := c) (k := (12289 : Int32)) (12289) (by decide) (by omega)
  have t28 := own_ltT (c := c) (k := (63744 : Int32)) (63744) (by decide) (by omega)
  have t29 := own_ltT (c := c) (k := (65008 : Int32)) (65008) (by decide) (by omega)
  have t30 := own_ltT (c := c) (k := (65536 : Int32)) (65536) (by decide) (by omega)
  simp +decide only [K1_0, K1_108, K1_122, K1_150, K1_164, K1_177, K1_189, K1_19, K1_201, K1_31, K1_66, K1_80, K1_94, t0, t1, t2, t3, t4, t5, t6, t7, t8, t9, t10, t11, t12, t13, t14, t15, t16, t17, t18, t19, t20, t21, t22, t23, t24, t25, t26, t27, t28, t29, t30, if_true, if_false, ↓reduceIte]
theorem own_k23 (c : Int32) (h1 : 11264 ≤ c.toInt) (h2 : c.toInt < 12272) : K1_0 c = 1 := by
  exact own_k23_0 c (by omega) (by omega)
theorem own_k24_0 (c : Int32) (h1 : 12272 ≤ c.toInt) (h2 : c.toInt ≤ 12288) : K1_0 c = 0 := by
  have t0 := own_eqF (c := c) (k := (58 : Int32)) (58) (by decide) (by omega)
  have t1 := own_eqF (c := c) (k := (95 : Int32)) (95) (by decide) (by omega)
  have t2 := own_eqF (c := c) (k := (8204 : Int32)) (8204) (by decide) (by omega)
  have t3 := own_eqF (c := c) (k := (8205 : Int32)) (8205) (by decide) (by omega)
  have t4 := own_gtT (c := c) (k := (90 : Int32)) (90) (by decide) (by omega)
  have t5 := own_gtT (c := c) (k := (122 : Int32)) (122) (by decide) (by omega)
  have t6 := own_gtT (c := c) (k := (214 : Int32)) (214) (by decide) (by omega)
  have t7 := own_gtT (c := c) (k := (246 : Int32)) (246) (by decide) (by omega)
  have t8 := own_gtT (c := c) (k := (767 : Int32)) (767) (by decide) (by omega)
  have t9 := own_gtT (c := c) (k := (893 : Int32)) (893) (by decide) (by omega)
  have t10 := own_gtT (c := c) (k := (8191 : Int32)) (8191) (by decide) (by omega)
  have t11 := own_gtT (c := c) (k := (8591 : Int32)) (8591) (by decide) (by omega)
  have t12 := own_gtT (c := c) (k := (12271 : Int32)) (12271) (by decide) (by omega)
  have t13 := own_gtF (c := c) (k := (55295 : Int32)) (55295) (by decide) (by omega)
  have t14 := own_gtF (c := c) (k := (64975 : Int32)) (64975) (by decide) (by omega)
  have t15 := own_gtF (c := c) (k := (65533 : Int32)) (65533) (by decide) (by omega)
  have t16 := own_gtF (c := c) (k := (983039 : Int32)) (983039) (by decide) (by omega)
  have t17 := own_ltF (c := c) (k := (65 : Int32)) (65) (by decide) (by omega)
  have t18 := own_ltF (c := c) (k := (97 : Int32)) (97) (by decide) (by omega)
  have t19 := own_ltF (c := c) (k := (128 : Int32)) (128) (by decide) (by omega)
  have t20 := own_ltF (c := c) (k := (192 : Int32)) (192) (by decide) (by omega)
  have t21 := own_ltF (c := c) (k := (216 : Int32)) (216) (by decide) (by omega)
  have t22 := own_ltF (c := c) (k := (248 : Int32)) (248) (by decide) (by omega)
  have t23 := own_ltF (c := c) (k := (880 : Int32)) (880) (by decide) (by omega)
  have t24 := own_ltF (c := c) (k := (895 : Int32)) (895) (by decide) (by omega)
  have t25 := own_ltF (c := c) (k := (8304 : Int32)) (8304) (by decide) (by omega)
  have t26 := own_ltF (c := c) (k := (11264 : Int32)) (11264) (by decide) (by omega)
  have t27 := own_ltT (c := c) (k := (12289 : Int32)) (12289) (by decide) (by omega)
  have t28 := own_ltT (c := c) (k := (63744 : Int32)) (63744) (by decide) (by omega)
  have t29 := own_ltT (c := c) (k := (65008 : Int32)) (65008) (by decide) (by omega)
  have t30 := own_ltT (c := c) (k := (65536 : Int32)) (65536) (by decide) (by omega)
  simp +decide only [K1_0, K1_108, K1_122, K1_150, K1_164, K1_177, K1_189, K1_19, K1_201, K1_31, K1_66, K1_80, K1_94, t0, t1, t2, t3, t4, t5, t6, t7, t8, t9, t10, t11, t12, t13, t14, t15, t16, t17, t18, t19, t20, t21, t22, t23, t24, t25, t26, t27, t28, t29, t30, if_true, if_false, ↓reduceIte]
theorem own_k24 (c : Int32) (h1 : 12272 ≤ c.toInt) (h2 : c.toInt < 12289) : K1_0 c = 0 := by
  exact own_k24_0 c (by omega) (by omega)
theorem own_k25_0 (c : Int32) (h1 : 12289 ≤ c.toInt) (h2 : c.toInt ≤ 55295) : K1_0 c = 1 := by
  have t0 := own_eqF (c := c) (k := (58 : Int32)) (58) (by decide) (by omega)
  have t1 := own_eqF (c := c) (k := (95 : Int32)) (95) (by decide) (by omega)
  have t2 := own_eqF (c := c) (k := (8204 : Int32)) (8204) (by decide) (by omega)
  have t3 := own_eqF (c := c) (k := (8205 : Int32)) (8205) (by decide) (by omega)
  have t4 := own_gtT (c := c) (k := (90 : Int32)) (90) (by decide) (by omega)
  have t5 := own_gtT (c := c) (k := (122 : Int32)) (122) (by decide) (by omega)
  have t6 := own_gtT (c := c) (k := (214 : Int32)) (214) (by decide) (by omega)
  have t7 := own_gtT (c := c) (k := (246 : Int32)) (246) (by decide) (by omega)
  have t8 := own_gtT (c := c) (k := (767 : Int32)) (767) (by decide) (by omega)
  have t9 := own_gtT (c := c) (k := (893 : Int32)) (893) (by decide) (by omega)
  have t10 := own_gtT (c := c) (k := (8191 : Int32)) (8191) (by decide) (by omega)
  have t11 := own_gtT (c := c) (k := (8591 : Int32)) (8591) (by decide) (by omega)
  have t12 := own_gtT (c := c) (k := (12271 : Int32)) (12271) (by decide) (by omega)
  have t13 := own_gtF (c := c) (k := (55295 : Int32)) (55295) (by decide) (by omega)
  have t14 := own_gtF (c := c) (k := (64975 : Int32)) (64975) (by decide) (by omega)
  have t15 := own_gtF (c := c) (k := (65533 : Int32)) (65533) (by decide) (by omega)
  have t16 := own_gtF (c := c) (k := (983039 : Int32)) (983039) (by decide) (by omega)
  have t17 := own_ltF (c := c) (k := (65 : Int32)) (65) (by decide) (by omega)
  have t18 := own_ltF (c := c) (k := (97 : Int32)) (97) (by decide) (by omega)
  have t19 := own_ltF (c := c) (k := (128 : Int32)) (128) (by decide) (by omega)
  have t20 := own_ltF (c := c) (k := (192 : Int32)) (192) (by decide) (by omega)
  have t21 := own_ltF (c := c) (k := (216 : Int32)) (216) (by decide) (by omega)
  have t22 := own_ltF (c := c) (k := (248 : Int32)) (248) (by decide) (by omega)
  have t23 := own_ltF (c := c) (k := (880 : Int32)) (880) (by decide) (by omega)
  have t24 := own_ltF (c := c) (k := (895 : Int32)) (895) (by decide) (by omega)
  have t25 := own_ltF (c := c) (k := (8304 : Int32)) (8304) (by decide) (by omega)
  have t26 := own_ltF (c := c) (k := (11264 : Int32)) (11264) (by decide) (by omega)
  have t27 := own_ltF (c := c) (k := (12289 : Int32)) (12289) (by decide) (by omega)
  have t28 := own_ltT (c := c) (k := (63744 : Int32)) (63744) (by decide) (by omega)
  have t29 := own_ltT (c := c) (k := (65008 : Int32)) (65008) (by decide) (by omega)
  have t30 := own_ltT (c := c) (k := (65536 : Int32)) (65536) (by decide) (by omega)
  simp +decide only [K1_0, K1_108, K1_122, K1_150, K1_164, K1_177, K1_189, K1_19, K1_201, K1_31, K1_66, K1_80, K1_94, t0, t1, t2, t3, t4, t5, t6, t7, t8, t9, t10, t11, t12, t13, t14, t15, t16, t17, t18, t19, t20, t21, t22, t23, t24, t25, t26, t27, t28, t29, t30, if_true, if_false, ↓reduceIte]
theorem own_k25 (c : Int32) (h1 : 12289 ≤ c.toInt) (h2 : c.toInt < 55296) : K1_0 c = 1 := by
  exact own_k25_0 c (by omega) (by omega)
theorem own_k26_0 (c : Int32) (h1 : 55296 ≤ c.toInt) (h2 : c.toInt ≤ 63743) : K1_0 c = 0 := by
  have t0 := own_eqF (c := c) (k := (58 : Int32)) (58) (by decide) (by omega)
  have t1 := own_eqF (c := c) (k := (95 : Int32)) (95) (by decide) (by omega)
  have t2 := own_eqF (c := c) (k := (8204 : Int32)) (8204) (by decide) (by omega)
  have t3 := own_eqF (c := c) (k := (8205 : Int32)) (8205) (by decide) (by omega)
  have t4 := own_gtT (c := c) (k := (90 : Int32)) (90) (by decide) (by omega)
  have t5 := own_gtT (c := c) (k := (122 : Int32)) (122) (by decide) (by omega)
  have t6 := own_gtT (c := c) (k := (214 : Int32)) (214) (by decide) (by omega)
  have t7 := own_gtT (c := c) (k := (246 : Int32)) (246) (by decide) (by omega)
  have t8 := own_gtT (c := c) (k := (767 : Int32)) (767) (by decide) (by omega)
  have t9 := own_gtT (c := c) (k := (893 : Int32)) (893) (by decide) (by omega)
  have t10 := own_gtT (c := c) (k := (8191 : Int32)) (8191) (by decide) (by omega)
  have t11 := own_gtT (c := c) (k := (8591 : Int32)) (8591) (by decide) (by omega)
  have t12 := own_gtT (c := c) (k := (12271 : Int32)) (12271) (by decide) (by omega)
  have t13 := own_gtT (c := c) (k := (55295 : Int32)) (55295) (by decide) (by omega)
  have t14 := own_gtF (c := c) (k := (64975 : Int32)) (64975) (by decide) (by omega)
  have t15 := own_gtF (c := c) (k := (65533 : Int32)) (65533) (by decide) (by omega)
  have t16 := own_gtF (c := c) (k := (983039 : Int32)) (983039) (by decide) (by omega)
  have t17 := own_ltF (c := c) (k := (65 : Int32)) (65) (by decide) (by omega)
  have t18 := own_ltF (c := c) (k := (97 : Int32)) (97) (by decide) (by omega)
  have t19 := own_ltF (c := c) (k := (128 : Int32)) (128) (by decide) (by omega)
  have t20 := own_ltF (c := c) (k := (192 : Int32)) (192) (by decide) (by omega)
  have t21 := own_ltF (c := c) (k := (216 : Int32)) (216) (by decide) (by omega)
  have t22 := own_ltF (c := c) (k := (248 : Int32)) (248) (by decide) (by omega)
  have t23 := own_ltF (c := c) (k := (880 : Int32)) (880) (by decide) (by omega)
  have t24 := own_ltF (c := c) (k := (895 : Int32)) (895) (by decide) (by omega)
  have t25 := own_ltF (c := c) (k := (8304 : Int32)) (8304) (by decide) (by omega)
  have t26 := own_ltF (c := c) (k := (11264 : Int32)) (11264) (by decide) (by omega)
  have t27 := own_ltF (c := c) (k := (12289 : Int32)) (12289) (by decide) (by omega)
  have t28 := own_ltT (c := c) (k := (63744 : Int32)) (63744) (by decide) (by omega)
  have t29 := own_ltT (c := c) (k := (65008 : Int32)) (65008) (by decide) (by omega)
  have t30 := own_ltT (c := c) (k := (65536 : Int32)) (65536) (by decide) (by omega)
  simp +decide only [K1_0, K1_108, K1_122, K1_150, K1_164, K1_177, K1_189, K1_19, K1_201, K1_31, K1_66, K1_80, K1_94, t0, t1, t2, t3, t4, t5, t6, t7, t8, t9, t10, t11, t12, t13, t14, t15, t16, t17, t18, t19, t20, t21, t22, t23, t24, t25, t26, t27, t28, t29, t30, if_true, if_false, ↓reduceIte]
theorem own_k26 (c : Int32) (h1 : 55296 ≤ c.toInt) (h2 : c.toInt < 63744) : K1_0 c = 0 := by
  exact own_k26_0 c (by omega) (by omega)
theorem own_k27_0 (c : Int32) (h1 : 63744 ≤ c.toInt) (h2 : c.toInt ≤ 64975) : K1_0 c = 1 := by
  have t0 := own_eqF (c := c) (k := (58 : Int32)) (58) (by decide) (by omega)
  have t1 := own_eqF (c := c) (k := (95 : Int32)) (95) (by decide) (by omega)
  have t2 := own_eqF (c := c) (k := (8204 : Int32)) (8204) (by decide) (by omega)
  have t3 := own_eqF (c := c) (k := (8205 : Int32)) (8205) (by decide) (by omega)
  have t4 := own_gtT (c := c) (k := (90 : Int32)) (90) (by decide) (by omega)
  have t5 := own_gtT (c := c) (k := (122 : Int32)) (122) (by decide) (by omega)
  have t6 := own_gtT (c := c) (k := (214 : Int32)) (214) (by decide) (by omega)
  have t7 := own_gtT (c := c) (k := (246 : Int32)) (246) (by decide) (by omega)
  have t8 := own_gtT (c := c) (k := (767 : Int32)) (767) (by decide) (by omega)
  have t9 := own_gtT (c := c) (k := (893 : Int32)) (893) (by decide) (by omega)
  have t10 := own_gtT (c := c) (k := (8191 : Int32)) (8191) (by decide) (by omega)
  have t11 := own_gtT (c := c) (k := (8591 : Int32)) (8591) (by decide) (by omega)
  have t12 := own_gtT (c := c) (k := (12271 : Int32)) (12271) (by decide) (by omega)
  have t13 := own_gtT (c := c) (k := (55295 : Int32)) (55295) (by decide) (by omega)
  have t14 := own_gtF (c := c) (k := (64975 : Int32)) (64975) (by decide) (by omega)
  have t15 := own_gtF (c := c) (k := (65533 : Int32)) (65533) (by decide) (by omega)
  have t16 := own_gtF (c := c) (k := (983039 : Int32)) (983039) (by decide) (by omega)
  have t17 := own_ltF (c := c) (k := (65 : Int32)) (65) (by decide) (by omega)
  have t18 := own_ltF (c := c) (k := (97 : Int32)) (97) (by decide) (by omega)
  have t19 := own_ltF (c := c) (k := (128 : Int32)) (128) (by decide) (by omega)
  have t20 := own_ltF (c := c) (k := (192 : Int32)) (192) (by decide) (by omega)
  have t21 := own_ltF (c := c) (k := (216 : Int32)) (216) (by decide) (by omega)
  have t22 := own_ltF (c := c) (k := (248 : Int32)) (248) (by decide) (by omega)
  have t23 := own_ltF (c := c) (k := (880 : Int32)) (880) (by decide) (by omega)
  have t24 := own_ltF (c := c) (k := (895 : Int32)) (895) (by decide) (by omega)
  have t25 := own_ltF (c := c) (k := (8304 : Int32)) (8304) (by decide) (by omega)
  have t26 := own_ltF (c := c) (k := (11264 : Int32)) (11264) (by decide) (by omega)
  have t27 := own_ltF (c := c) (k := (12289 : Int32)) (12289) (by decide) (by omega)
  have t28 := own_ltF (c := c) (k := (63744 : Int32)) (63744) (by decide) (by omega)
  have t29 := own_ltT (c := c) (k := (65008 : Int32)) (65008) (by decide) (by omega)
  have t30 := own_ltT (c := c) (k := (65536 : Int32)) (65536) (by decide) (by omega)
  simp +decide only [K1_0, K1_108, K1_122, K1_150, K1_164, K1_177, K1_189, K1_19, K1_201, K1_31, K1_66, K1_80, K1_94, t0, t1, t2, t3, t4, t5, t6, t7, t8, t9, t10, t11, t12, t13, t14, t15, t16, t17, t18, t19, t20, t21, t22, t23, t24, t25, t26, t27, t28, t29, t30, if_true, if_false, ↓reduceIte]
theorem own_k27 (c : Int32) (h1 : 63744 ≤ c.toInt) (h2 : c.toInt < 64976) : K1_0 c = 1 := by
  exact own_k27_0 c (by omega) (by omega)
theorem own_k28_0 (c : Int32) (h1 : 64976 ≤ c.toInt) (h2 : c.toInt ≤ 65007) : K1_0 c = 0 := by
  have t0 := own_eqF (c := c) (k := (58 : Int32)) (58) (by decide) (by omega)
  have t1 := own_eqF (c := c) (k := (95 : Int32)) (95) (by decide) (by omega)
  have t2 := own_eqF (c := c) (k := (8204 : Int32)) (8204) (by decide) (by omega)
  have t3 := own_eqF (c := c) (k := (8205 : Int32)) (8205) (by decide) (by omega)
  have t4 := own_gtT (c := c) (k := (90 : Int32)) (90) (by decide) (by omega)
  have t5 := own_gtT (c := c) (k := (122 : Int32)) (122) (by decide) (by omega)
  have t6 := own_gtT (c := c) (k := (214 : Int32)) (214) (by decide) (by omega)
  have t7 := own_gtT (c := c) (k := (246 : Int32)) (246) (by decide) (by omega)
  have t8 := own_gtT (c := c) (k := (767 : Int32)) (767) (by decide) (by omega)
  have t9 := own_gtT (c := c) (k := (893 : Int32)) (893) (by decide) (by omega)
  have t10 := own_gtT (c := c) (k := (8191 : Int32)) (8191) (by decide) (by omega)
  have t11 := own_gtT (c := c) (k := (8591 : Int32)) (8591) (by decide) (by omega)
  have t12 := own_gtT (c := c) (k := (12271 : Int32)) (12271) (by decide) (by omega)
  have t13 := own_gtT (c := c) (k := (55295 : Int32)) (55295) (by decide) (by omega)
  have t14 := own_gtT (c := c) (k := (64975 : Int32)) (64975) (by decide) (by omega)
  have t15 := own_gtF (c := c) (k := (65533 : Int32)) (65533) (by decide) (by omega)
  have t16 := own_gtF (c := c) (k := (983039 : Int32)) (983039) (by decide) (by omega)
  have t17 := own_ltF (c := c) (k := (65 : Int32)) (65) (by decide) (by omega)
  have t18 := own_ltF (c := c) (k := (97 : Int32)) (97) (by decide) (by omega)
  have t19 := own_ltF (c := c) (k := (128 : Int32)) (128) (by decide) (by omega)
  have t20 := own_ltF (c := c) (k := (192 : Int32)) (192) (by decide) (by omega)
  have t21 := own_ltF (c := c) (k := (216 : Int32)) (216) (by decide) (by omega)
  have t22 := own_ltF (c := c) (k := (248 : Int32)) (248) (by decide) (by omega)
  have t23 := own_ltF (c := c) (k := (880 : Int32)) (880) (by decide) (by omega)
  have t24 := own_ltF (c := c) (k := (895 : Int32)) (895) (by decide) (by omega)
  have t25 := own_ltF (c := c) (k := (8304 : Int32)) (8304) (by decide) (by omega)
  have t26 := own_ltF (c := c) (k := (11264 : Int32)) (11264) (by decide) (by omega)
  have t27 := own_ltF (c := c) (k := (12289 : Int32)) (12289) (by decide) (by omega)
  have t28 := own_ltF (c := c) (k := (63744 : Int32)) (63744) (by decide) (by omega)
  have t29 := own_ltT (c := c) (k := (65008 : Int32)) (65008) (by decide) (by omega)
  have t30 := own_ltT (c := c) (k := (65536 : Int32)) (65536) (by decide) (by omega)
  simp +decide only [K1_0, K1_108, K1_122, K1_150, K1_164, K1_177, K1_189, K1_19, K1_201, K1_31, K1_66, K1_80, K1_94, t0, t1, t2, t3, t4, t5, t6, t7, t8, t9, t10, t11, t12, t13, t14, t15, t16, t17, t18, t19, t20, t21, t22, t23, t24, t25, t26, t27, t28, t29, t30, if_true, if_false, ↓reduceIte]
theorem own_k28 (c : Int32) (h1 : 64976 ≤ c.toInt) (h2 : c.toInt < 65008) : K1_0 c = 0 := by
  exact own_k28_0 c (by omega) (by omega)
theorem own_k29_0 (c : Int32) (h1 : 65008 ≤ c.toInt) (h2 : c.toInt ≤ 65533) : K1_0 c = 1 := by
  have t0 := own_eqF (c := c) (k := (58 : Int32)) (58) (by decide) (by omega)
  have t1 := own_eqF (c := c) (k := (95 : Int32)) (95) (by decide) (by omega)
  have t2 := own_eqF (c := c) (k := (8204 : Int32)) (8204) (by decide) (by omega)
  have t3 := own_eqF (c := c) (k := (8205 : Int32)) (8205) (by decide) (by omega)
  have t4 := own_gtT (c := c) (k := (90 : Int32)) (90) (by decide) (by omega)
  have t5 := own_gtT (c := c) (k := (122 : Int32)) (122) (by decide) (by omega)
  have t6 := own_gtT (c := c) (k := (214 : Int32)) (214) (by decide) (by omega)
  have t7 := own_gtT (c := c) (k := (246 : Int32)) (246) (by decide) (by omega)
  have t8 := own_gtT (c := c) (k := (767 : Int32)) (767) (by decide) (by omega)
  have t9 := own_gtT (c := c) (k := (893 : Int32)) (893) (by decide) (by omega)
  have t10 := own_gtT (c := c) (k := (8191 : Int32)) (8191) (by decide) (by omega)
  have t11 := own_gtT (c := c) (k := (8591 : Int32)) (8591) (by decide) (by omega)
  have t12 := own_gtT (c := c) (k := (12271 : Int32)) (12271) (by decide) (by omega)
  have t13 := own_gtT (c := c) (k := (55295 : Int32)) (55295) (by decide) (by omega)
  have t14 := own_gtT (c := c) (k := (64975 : Int32)) (64975) (by decide) (by omega)
  have t15 := own_gtF (c := c) (k := (65533 : Int32)) (65533) (by decide) (by omega)
  have t16 := own_gtF (c := c) (k := (983039 : Int32)) (983039) (by decide) (by omega)
  have t17 := own_ltF (c := c) (k := (65 : Int32)) (65) (by decide) (by omega)
  have t18 := own_ltF (c := c) (k := (97 : Int32)) (97) (by decide) (by omega)
  have t19 := own_ltF (c := c) (k := (128 : Int32)) (128) (by decide) (by omega)
  have t20 := own_ltF (c := c) (k := (192 : Int32)) (192) (by decide) (by omega)
  have t21 := own_ltF (c := c) (k := (216 : Int32)) (216) (by decide) (by omega)
  have t22 := own_ltF (c := c) (k := (248 : Int32)) (248) (by decide) (by omega)
  have t23 := own_ltF (c := c) (k := (880 : Int32)) (880) (by decide) (by omega)
  have t24 := own_ltF (c := c) (k := (895 : Int32)) (895) (by decide) (by omega)
  have t25 := own_ltF (c := c) (k := (8304 : Int32)) (8304) (by decide) (by omega)
  have t26 := own_ltF (c := c) (k := (11264 : Int32)) (11264) (by decide) (by omega)
  have t27 := own_ltF (c := c) (k := (12289 : Int32)) (12289) (by decide) (by omega)
  have t28 := own_ltF (c := c) (k := (63744 : Int32)) (63744) (by decide) (by omega)
  have t29 := own_ltF (c := c) (k := (65008 : Int32)) (65008) (by decide) (by omega)
  have t30 := own_ltT (c := c) (k := (65536 : Int32)) (65536) (by decide) (by omega)
  simp +decide only [K1_0, K1_108, K1_122, K1_150, K1_164, K1_177, K1_189, K1_19, K1_201, K1_31, K1_66, K1_80, K1_94, t0, t1, t2, t3, t4, t5, t6, t7, t8, t9, t10, t11, t12, t13, t14, t15, t16, t17, t18, t19, t20, t21, t22, t23, t24, t25, t26, t27, t28, t29, t30, if_true, if_false, ↓reduceIte]
theorem own_k29 (c : Int32) (h1 : 65008 ≤ c.toInt) (h2 : c.toInt < 65534) : K1_0 c = 1 := by
  exact own_k29_0 c (by omega) (by omega)
theorem own_k30_0 (c : Int32) (h1 : 65534 ≤ c.toInt) (h2 : c.toInt ≤ 65535) : K1_0 c = 0 := by
  have t0 := own_eqF (c := c) (k := (58 : Int32)) (58) (by decide) (by omega)
  have t1 := own_eqF (c := c) (k := (95 : Int32)) (95) (by decide) (by omega)
  have t2 := own_eqF (c := c) (k := (8204 : Int32)) (8204) (by decide) (by omega)
  have t3 := own_eqF (c := c) (k := (8205 : Int32)) (8205) (by decide) (by omega)
  have t4 := own_gtT (c := c) (k := (90 : Int32)) (90) (by decide) (by omega)
  have t5 := own_gtT (c := c) (k := (122 : Int32)) (122) (by decide) (by omega)
  have t6 := own_gtT (c := c) (k := (214 : Int32)) (214) (by decide) (by omega)
  have t7 := own_gtT (c := c) (k := (246 : Int32)) (246) (by decide) (by omega)
  have t8 := own_gtT (c := c) (k := (767 : Int32)) (767) (by decide) (by omega)
  have t9 := own_gtT (c := c) (k := (893 : Int32)) (893) (by decide) (by omega)
  have t10 := own_gtT (c := c) (k := (8191 : Int32)) (8191) (by decide) (by omega)
  have t11 := own_gtT (c := c) (k := (8591 : Int32)) (8591) (by decide) (by omega)
  have t12 := own_gtT (c := c) (k := (12271 : Int32)) (12271) (by decide) (by omega)
  have t13 := own_gtT (c := c) (k := (55295 : Int32)) (55295) (by decide) (by omega)
  have t14 := own_gtT (c := c) (k := (64975 : Int32)) (64975) (by decide) (by omega)
  have t15 := own_gtT (c := c) (k := (65533 : Int32)) (65533) (by decide) (by omega)
  have t16 := own_gtF (c := c) (k := (983039 : Int32)) (983039) (by decide) (by omega)
  have t17 := own_ltF (c := c) (k := (65 : Int32)) (65) (by decide) (by omega)
  have t18 := own_ltF (c := c) (k := (97 : Int32)) (97) (by decide) (by omega)
  have t19 := own_ltF (c := c) (k := (128 : Int32)) (128) (by decide) (by omega)
  have t20 := own_ltF (c := c) (k := (192 : Int32)) (192) (by decide) (by omega)
  have t21 := own_ltF (c := c) (k := (216 : Int32)) (216) (by decide) (by omega)
  have t22 := own_ltF (c := c) (k := (248 : Int32)) (248) (by decide) (by omega)
  have t23 := own_ltF (c := c) (k := (880 : Int32)) (880) (by decide) (by omega)
  have t24 := own_ltF (c := c) (k := (895 : Int32)) (895) (by decide) (by omega)
  have t25 := own_ltF (c := c) (k := (8304 : Int32)) (8304) (by decide) (by omega)
  have t26 := own_ltF (c := c) (k := (11264 : Int32)) (11264) (by decide) (by omega)
  have t27 := own_ltF (c := c) (k := (12289 : Int32)) (12289) (by decide) (by omega)
  have t28 := own_ltF (c := c) (k := (63744 : Int32)) (63744) (by decide) (by omega)
  have t29 := own_ltF (c := c) (k := (65008 : Int32)) (65008) (by decide) (by omega)
  have t30 := own_ltT (c := c) (k := (65536 : Int32)) (65536) (by decide) (by omega)
  simp +decide only [K1_0, K1_108, K1_122, K1_150, K1_164, K1_177, K1_189, K1_19, K1_201, K1_31, K1_66, K1_80, K1_94, t0, t1, t2, t3, t4, t5, t6, t7, t8, t9, t10, t11, t12, t13, t14, t15, t16, t17, t18, t19, t20, t21, t22, t23, t24, t25, t26, t27, t28, t29, t30, if_true, if_false, ↓reduceIte]
theorem own_k30 (c : Int32) (h1 : 65534 ≤ c.toInt) (h2 : c.toInt < 65536) : K1_0 c = 0 := by
  exact own_k30_0 c (by omega) (by omega)
theorem own_k31_0 (c : Int32) (h1 : 65536 ≤ c.toInt) (h2 : c.toInt ≤ 983039) : K1_0 c = 1 := by
  have t0 := own_eqF (c := c) (k := (58 : Int32)) (58) (by decide) (by omega)
  have t1 := own_eqF (c := c) (k := (95 : Int32)) (95) (by decide) (by omega)
  have t2 := own_eqF (c := c) (k := (8204 : Int32)) (8204) (by decide) (by omega)
  have t3 := own_eqF (c := c) (k := (8205 : Int32)) (8205) (by decide) (by omega)
  have t4 := own_gtT (c := c) (k := (90 : Int32)) (90) (by decide) (by omega)
  have t5 := own_gtT (c := c) (k := (122 : Int32)) (122) (by decide) (by omega)
  have t6 := own_gtT (c := c) (k := (214 : Int32)) (214) (by decide) (by omega)
  have t7 := own_gtT (c := c) (k := (246 : Int32)) (246) (by decide) (by omega)
  have t8 := own_gtT (c := c) (k := (767 : Int32)) (767) (by decide) (by omega)
  have t9 := own_gtT (c := c) (k := (893 : Int32)) (893) (by decide) (by omega)
  have t10 := own_gtT (c := c) (k := (8191 : Int32)) (8191) (by decide) (by omega)
  have t11 := own_gtT (c := c) (k := (8591 : Int32)) (8591) (by decide) (by omega)
  have t12 := own_gtT (c := c) (k := (12271 : Int32)) (12271) (by decide) (by omega)
  have t13 := own_gtT (c := c) (k := (55295 : Int32)) (55295) (by decide) (by omega)
  have t14 := own_gtT (c := c) (k := (64975 : Int32)) (64975) (by decide) (by omega)
  have t15 := own_gtT (c := c) (k := (65533 : Int32)) (65533) (by decide) (by omega)
  have t16 := own_gtF (c := c) (k := (983039 : Int32)) (983039) (by decide) (by omega)
  have t17 := own_ltF (c := c) (k := (65 : Int32)) (65) (by decide) (by omega)
  have t18 := own_ltF (c := c) (k := (97 : Int32)) (97) (by decide) (by omega)
  have t19 := own_ltF (c := c) (k := (128 : Int32)) (128) (by decide) (by omega)
  have t20 := own_ltF (c := c) (k := (192 : Int32)) (192) (by decide) (by omega)
  have t21 := own_ltF (c := c) (k := (216 : Int32)) (216) (by decide) (by omega)
  have t22 := own_ltF (c := c) (k := (248 : Int32)) (248) (by decide) (by omega)
  have t23 := own_ltF (c := c) (k := (880 : Int32)) (880) (by decide) (by omega)
  have t24 := own_ltF (c := c) (k := (895 : Int32)) (895) (by decide) (by omega)
  have t25 := own_ltF (c := c) (k := (8304 : Int32)) (8304) (by decide) (by omega)
  have t26 := own_ltF (c := c) (k := (11264 : Int32)) (11264) (by decide) (by omega)
  have t27 := own_ltF (c := c) (k := (12289 : Int32)) (12289) (by decide) (by omega)
  have t28 := own_ltF (c := c) (k := (63744 : Int32)) (63744) (by decide) (by omega)
  have t29 := own_ltF (c := c) (k := (65008 : Int32)) (65008) (by decide) (by omega)
  have t30 := own_ltF (c := c) (k := (65536 : Int32)) (65536) (by decide) (by omega)
  simp +decide only [K1_0, K1_108, K1_122, K1_150, K1_164, K1_177, K1_189, K1_19, K1_201, K1_31, K1_66, K1_80, K1_94, t0, t1, t2, t3, t4, t5, t6, t7, t8, t9, t10, t11, t12, t13, t14, t15, t16, t17, t18, t19, t20, t21, t22, t23, t24, t25, t26, t27, t28, t29, t30, if_true, if_false, ↓reduceIte]
theorem own_k31 (c : Int32) (h1 : 65536 ≤ c.toInt) (h2 : c.toInt < 983040) : K1_0 c = 1 := by
  exact own_k31_0 c (by omega) (by omega)
theorem own_k32_0 (c : Int32) (h1 : 983040 ≤ c.toInt) (h2 : c.toInt ≤ 2147483647) : K1_0 c = 0 := by
  have t0 := own_eqF (c := c) (k := (58 : Int32)) (58) (by decide) (by omega)
  have t1 := own_eqF (c := c) (k := (95 : Int32)) (95) (by decide) (by omega)
  have t2 := own_eqF (c := c) (k := (8204 : Int32)) (8204) (by decide) (by omega)
  have t3 := own_eqF (c := c) (k := (8205 : Int32)) (8205) (by decide) (by omega)
  have t4 := own_gtT (c := c) (k := (90 : Int32)) (90) (by decide) (by omega)
  have t5 := own_gtT (c := c) (k := (122 : Int32)) (122) (by decide) (by omega)
  have t6 := own_gtT (c := c) (k := (214 : Int32)) (214) (by decide) (by omega)
  have t7 := own_gtT (c := c) (k := (246 : Int32)) (246) (by decide) (by omega)
  have t8 := own_gtT (c := c) (k := (767 : Int32)) (767) (by decide) (by omega)
  have t9 := own_gtT (c := c) (k := (893 : Int32)) (893) (by decide) (by omega)
  have t10 := own_gtT (c := c) (k := (8191 : Int32)) (8191) (by decide) (by omega)
  have t11 := own_gtT (c := c) (k := (8591 : Int32)) (8591) (by decide) (by omega)
  have t12 := own_gtT (c := c) (k := (12271 : Int32)) (12271) (by decide) (by omega)
  have t13 := own_gtT (c := c) (k := (55295 : Int32)) (55295) (by decide) (by omega)
  have t14 := own_gtT (c := c) (k := (64975 : Int32)) (64975) (by decide) (by omega)
  have t15 := own_gtT (c := c) (k := (65533 : Int32)) (65533) (by decide) (by omega)
  have t16 := own_gtT (c := c) (k := (983039 : Int32)) (983039) (by decide) (by omega)
  have t17 := own_ltF (c := c) (k := (65 : Int32)) (65) (by decide) (by omega)
  have t18 := own_ltF (c := c) (k := (97 : Int32)) (97) (by decide) (by omega)
  have t19 := own_ltF (c := c) (k := (128 : Int32)) (128) (by decide) (by omega)
  have t20 := own_ltF (c := c) (k := (192 : Int32)) (192) (by decide) (by omega)
  have t21 := own_ltF (c := c) (k := (216 : Int32)) (216) (by decide) (by omega)
  have t22 := own_ltF (c := c) (k := (248 : Int32)) (248) (by decide) (by omega)
  have t23 := own_ltF (c := c) (k := (880 : Int32)) (880) (by decide) (by omega)
  have t24 := own_ltF (c := c) (k := (895 : Int32)) (895) (by decide) (by omega)
  have t25 := own_ltF (c := c) (k := (8304 : Int32)) (8304) (by decide) (by omega)
  have t26 := own_ltF (c := c) (k := (11264 : Int32)) (11264) (by decide) (by omega)
  have t27 := own_ltF (c := c) (k := (12289 : Int32)) (12289) (by decide) (by omega)
  have t28 := own_ltF (c := c) (k := (63744 : Int32)) (63744) (by decide) (by omega)
  have t29 := own_ltF (c := c) (k := (65008 : Int32)) (65008) (by decide) (by omega)
  have t30 := own_ltF (c := c) (k := (65536 : Int32)) (65536) (by decide) (by omega)
  simp +decide only [K1_0, K1_108, K1_122, K1_150, K1_164, K1_177, K1_189, K1_19, K1_201, K1_31, K1_66, K1_80, K1_94, t0, t1, t2, t3, t4, t5, t6, t7, t8, t9, t10, t11, t12, t13, t14, t15, t16, t17, t18, t19, t20, t21, t22, t23, t24, t25, t26, t27, t28, t29, t30, if_true, if_false, ↓reduceIte]
theorem own_k32 (c : Int32) (h1 : 983040 ≤ c.toInt) (h2 : c.toInt < 2147483648) : K1_0 c = 0 := by
  exact own_k32_0 c (by omega) (by omega)
theorem own_k (c : Int32) : ∀ n, n < 33 → own_ends.getD n 0 ≤ c.toInt → c.toInt < own_ends.getD (n + 1) 0 → K1_0 c = if n % 2 = 1 then 1 else 0 := by
  intro n hn h1 h2
  have : n = 0 ∨ n = 1 ∨ n = 2 ∨ n = 3 ∨ n = 4 ∨ n = 5 ∨ n = 6 ∨ n = 7 ∨ n = 8 ∨ n = 9 ∨ n = 10 ∨ n = 11 ∨ n = 12 ∨ n = 13 ∨ n = 14 ∨ n = 15 ∨ n = 16 ∨ n = 17 ∨ n = 18 ∨ n = 19 ∨ n = 20 ∨ n = 21 ∨ n = 22 ∨ n = 23 ∨ n = 24 ∨ n = 25 ∨ n = 26 ∨ n = 27 ∨ n = 28 ∨ n = 29 ∨ n = 30 ∨ n = 31 ∨ n = 32 := by omega
  rcases this with rfl | rfl | rfl | rfl | rfl | rfl | rfl | rfl | rfl | rfl | rfl | rfl | rfl | rfl | rfl | rfl | rfl | rfl | rfl | rfl | rfl | rfl | rfl | rfl | rfl | rfl | rfl | rfl | rfl | rfl | rfl | rfl | rfl
  · exact own_k0 c h1 h2
  · exact own_k1 c h1 h2
  · exact own_k2 c h1 h2
  · exact own_k3 c h1 h2
  · exact own_k4 c h1 h2
  · exact own_k5 c h1 h2
  · exact own_k6 c h1 h2
  · exact own_k7 c h1 h2
  · exact own_k8 c h1 h2
  · exact own_k9 c h1 h2
  · exact own_k10 c h1 h2
  · exact own_k11 c h1 h2
  · exact own_k12 c h1 h2
  · exact own_k13 c h1 h2
  · exact own_k14 c h1 h2
  · exact own_k15 c h1 h2
  · exact own_k16 c h1 h2
  · exact own_k17 c h1 h2
  · exact own_k18 c h1 h2
  · exact own_k19 c h1 h2
  · exact own_k20 c h1 h2
  · exact own_k21 c h1 h2
  · exact own_k22 c h1 h2
  · exact own_k23 c h1 h2
  · exact own_k24 c h1 h2
  · exact own_k25 c h1 h2
  · exact own_k26 c h1 h2
  · exact own_k27 c h1 h2
  · exact own_k28 c h1 h2
  · exact own_k29 c h1 h2
  · exact own_k30 c h1 h2
  · exact own_k31 c h1 h2
  · exact own_k32 c h1 h2
theorem own_ix {x ix : Int32} (h : ix = (x &&& 2147483647) % 33) : 0 ≤ ix.toInt ∧ ix.toInt < 33 ∧ ¬ ix < 0 ∧ ix.toNatClampNeg < 33 ∧ (ix.toNatClampNeg : Int) = ix.toInt := by
  have h0 := (own_m x 2147483647 (k := 31) (by decide) (by decide)).1
  have e : (33 : Int32).toInt = 33 := by decide
  have e1 : ix.toInt = (x &&& 2147483647).toInt % 33 := by rw [h, Jvm.Kit.i32_rem_nonneg h0, e]
  have e2 : (ix.toNatClampNeg : Int) = ix.toInt := by show (ix.toInt.toNat : Int) = _; omega
  rw [Int32.lt_iff_toInt_lt, own_zero]
  omega
theorem own_ix1 {x ix : Int32} (h : ix = (x &&& 2147483647) % 33) (hc : ¬ ix = 32) : ¬ (ix + 1) < 0 ∧ (ix + 1).toNatClampNeg < 33 ∧ (ix + 1).toNatClampNeg = ix.toNatClampNeg + 1 := by
  have h1 := own_ix h
  have e : (32 : Int32).toInt = 32 := by decide
  have hc' : ix.toInt ≠ 32 := fun q => hc (own_toInt (q.trans e.symm))
  have e1 : (ix + 1).toInt = ix.toInt + 1 := by rw [Jvm.Kit.i32_add (by rw [own_one]; omega) (by rw [own_one]; omega), own_one]
  have e2 : ((ix + 1).toNatClampNeg : Int) = (ix + 1).toInt := by show ((ix + 1).toInt.toNat : Int) = _; omega
  rw [Int32.lt_iff_toInt_lt, own_zero]
  omega
theorem own_hiv {x ix hi : Int32} (h : ix = (x &&& 2147483647) % 33) (hh : hi = (if ix = 32 then 2147483647 else own_tab.getD (ix + 1).toNatClampNeg 0 - 1)) : hi.toInt = own_ends.getD (ix.toNatClampNeg + 1) 0 - 1 := by
  have h1 := own_ix h
  have e : (32 : Int32).toInt = 32 := by decide
  by_cases hc : ix = 32
  · rw [hh, if_pos hc, hc]; decide
  · have h2 := own_ix1 h hc
    have hc' : ix.toInt ≠ 32 := fun q => hc (own_toInt (q.trans e.symm))
    rw [hh, if_neg hc, h2.2.2, own_hi _ (by omega)]
theorem own_ln {x ix lo hi : Int32} {len : Int64} (h : ix = (x &&& 2147483647) % 33) (hlo : lo = own_tab.getD ix.toNatClampNeg 0) (hh : hi = (if ix = 32 then 2147483647 else own_tab.getD (ix + 1).toNatClampNeg 0 - 1)) (hlen : len = hi.toInt64 - lo.toInt64 + 1) :
    lo.toInt = own_ends.getD ix.toNatClampNeg 0 ∧ len.toInt = own_ends.getD (ix.toNatClampNeg + 1) 0 - lo.toInt ∧ 1 ≤ len.toInt ∧ len.toInt ≤ 4294967296 := by
  have h1 := own_ix h
  have h2 := own_hiv h hh
  have h3 := own_mono _ h1.2.2.2.1
  have h4 : lo.toInt = own_ends.getD ix.toNatClampNeg 0 := by rw [hlo]; exact own_lo _ h1.2.2.2.1
  have e1 : (1 : Int64).toInt = 1 := by decide
  have e2 : hi.toInt64.toInt = hi.toInt := Int32.toInt_toInt64 hi
  have e3 : lo.toInt64.toInt = lo.toInt := Int32.toInt_toInt64 lo
  have e4 : (hi.toInt64 - lo.toInt64).toInt = hi.toInt - lo.toInt := by rw [Jvm.Kit.i64_sub (by omega) (by omega), e2, e3]
  have e5 : len.toInt = hi.toInt - lo.toInt + 1 := by rw [hlen, Jvm.Kit.i64_add (by omega) (by omega), e4, e1]
  omega
theorem own_lne {len : Int64} (h : 1 ≤ len.toInt) : len ≠ 0 := by
  intro q
  rw [q] at h
  exact absurd h (by decide)
theorem own_law {x off ix lo hi mm cc ve : Int32} {len pk : Int64} (h : ix = (x &&& 2147483647) % 33) (hlo : lo = own_tab.getD ix.toNatClampNeg 0) (hh : hi = (if ix = 32 then 2147483647 else own_tab.getD (ix + 1).toNatClampNeg 0 - 1)) (hlen : len = hi.toInt64 - lo.toInt64 + 1)
    (hpk : pk = (if mm = 0 then 0 else (if mm = 1 then len - 1 else (off.toInt64 &&& 4294967295) % len))) (hcc : cc = (lo.toInt64 + pk).toInt32) (hve : ve = (if (ix &&& 1) = 1 then 1 else 0)) : K1_0 cc = ve := by
  have h1 := own_ix h
  obtain ⟨l1, l2, l3, l4⟩ := own_ln h hlo hh hlen
  have h3 := own_mono _ h1.2.2.2.1
  have e1 : (1 : Int64).toInt = 1 := by decide
  have e0 : (0 : Int64).toInt = 0 := by decide
  have p1 : 0 ≤ pk.toInt ∧ pk.toInt < len.toInt := by
    rw [hpk]
    split
    · rw [e0]; omega
    · split
      · rw [Jvm.Kit.i64_sub (by omega) (by omega), e1]; omega
      · have m1 : (off.toInt64 &&& 4294967295).toInt = off.toInt64.toInt % 2 ^ 32 := Jvm.Kit.i64_mask _ _ (k := 32) (by decide) (by decide)
        have m2 : 0 ≤ (off.toInt64 &&& 4294967295).toInt := by rw [m1]; omega
        rw [Int64.toInt_mod, Int.tmod_eq_emod_of_nonneg m2]
        exact ⟨Int.emod_nonneg _ (by omega), Int.emod_lt_of_pos _ (by omega)⟩
  have e3 : lo.toInt64.toInt = lo.toInt := Int32.toInt_toInt64 lo
  have e4 : (lo.toInt64 + pk).toInt = lo.toInt + pk.toInt := by rw [Jvm.Kit.i64_add (by omega) (by omega), e3]
  have e5 : cc.toInt = lo.toInt + pk.toInt := by rw [hcc, Jvm.Kit.i32_of_i64 (by omega) (by omega), e4]
  rw [own_k cc _ h1.2.2.2.1 (by omega) (by omega), hve]
  have m1 : (ix &&& 1).toInt = ix.toInt % 2 ^ 1 := Jvm.Kit.i32_mask ix 1 (k := 1) (by decide) (by decide)
  have m2 : ((ix &&& 1) = 1) ↔ (ix.toNatClampNeg % 2 = 1) := by
    rw [← Int32.toInt_inj, m1, own_one]; omega
  simp only [m2]
theorem ef_0 (m : MethodId) (x0 : Int32) (x1 : Int32) (x2 : Int32) : entryFrame m #[(.int x0), (.int x1), (.int x2)] maxLocals = mkF m 0 #[.val (.int x0), .val (.int x1), .val (.int x2), .unset, .unset, .unset, .unset, .unset, .unset, .unset, .unset, .unset, .unset, .unset] [] := by first | (simp [entryFrame, mkF, argsToLocals, Value.category, maxLocals]; done) | rfl
set_option maxRecDepth 65536 in
set_option maxHeartbeats 40000000 in
theorem rm0 (l : Launch) (Z : State) (a0 : Array Value) (hw : ∀ d ∈ tables_1, d.before a0 Z = true) (x0 : Int32) (x1 : Int32) (x2 : Int32) (h0 : Heap) (n0 : Nat) (Z0 : n0 ≤ h0.size) :
    Con l Z x code maxLocals ret room_1 #[(.int x0), (.int x1), (.int x2)] h0 (QL (some (.int 1)) n0) := by
  refine Con.of (plainFor_of_name (by first | (simp [plainName, overriddenIn]; done) | decide +kernel)) ?_
  intro p e s m below meth c T X hx hZ hby hml hown hnm hret hlk e0
  rw [ef_0]
  have N0 := Fr.nil n0
  show Go p e below s room_1.cells room_1.slots (QL (some (.int 1)) n0) T (mkF m 0 #[.val (.int x0), .val (.int x1), .val (.int x2), .unset, .unset, .unset, .unset, .unset, .unset, .unset, .unset, .unset, .unset, .unset] [])
  refine w_bipush (v := 33) X hx (hb hby at_0) (pc' := 2) rfl rfl ?_
  refine w_newI X hx hZ (cap := 33) e0 (hw _ (List.mem_of_getElem? (i := 0) rfl)) (by decide) (by decide) (by decide) (by decide) (by decide) (hb hby at_2) (pc' := 4) rfl (fun T1 h1 b1 X1 e1 E1 q1 V1 => ?_)
  have g_b1 : n0 ≤ b1 := by rw [q1]; exact Z0
  have V1 : AI Z h1 b1 .int [(0 : Int32), (0 : Int32), (0 : Int32), (0 : Int32), (0 : Int32), (0 : Int32), (0 : Int32), (0 : Int32), (0 : Int32), (0 : Int32), (0 : Int32), (0 : Int32), (0 : Int32), (0 : Int32), (0 : Int32), (0 : Int32), (0 : Int32), (0 : Int32), (0 : Int32), (0 : Int32), (0 : Int32), (0 : Int32), (0 : Int32), (0 : Int32), (0 : Int32), (0 : Int32), (0 : Int32), (0 : Int32), (0 : Int32), (0 : Int32), (0 : Int32), (0 : Int32), (0 : Int32)] := V1
  have zn1 : n0 ≤ h1.size := Nat.le_trans Z0 E1.1
  refine w_dup X1 hx (hb hby at_4) (pc' := 5) rfl rfl ?_
  refine w_iconst (v := 0) X1 hx (hb hby at_5) (pc' := 6) rfl rfl ?_
  refine w_ldc X1 hx hZ hown (hw _ (List.mem_of_getElem? (i := 1) rfl)) (hb hby at_6) (pc' := 8) rfl ?_
  refine w_iastore X1 hx hZ e1 V1 (by decide) (by show _ < 33; decide) (hb hby at_8) (pc' := 9) rfl (fun T2 h2 X2 e2 W2 V2 => ?_)
  have V2 : AI Z h2 b1 .int [(-2147483648 : Int32), (0 : Int32), (0 : Int32), (0 : Int32), (0 : Int32), (0 : Int32), (0 : Int32), (0 : Int32), (0 : Int32), (0 : Int32), (0 : Int32), (0 : Int32), (0 : Int32), (0 : Int32), (0 : Int32), (0 : Int32), (0 : Int32), (0 : Int32), (0 : Int32), (0 : Int32), (0 : Int32), (0 : Int32), (0 : Int32), (0 : Int32), (0 : Int32), (0 : Int32), (0 : Int32), (0 : Int32), (0 : Int32), (0 : Int32), (0 : Int32), (0 : Int32), (0 : Int32)] := V2
  have N2 := Fr.snoc X2 N0 g_b1
  have zn2 : n0 ≤ h2.size := by rw [W2.size]; exact zn1
  refine w_dup X2 hx (hb hby at_9) (pc' := 10) rfl rfl ?_
  refine w_iconst (v := 1) X2 hx (hb hby at_10) (pc' := 11) rfl rfl ?_
  refine w_bipush (v := 58) X2 hx (hb hby at_11) (pc' := 13) rfl rfl ?_
  refine w_iastore X2 hx hZ e2 V2 (by decide) (by show _ < 33; decide) (hb hby at_13) (pc' := 14) rfl (fun T3 h3 X3 e3 W3 V3 => ?_)
  have V3 : AI Z h3 b1 .int [(-2147483648 : Int32), (58 : Int32), (0 : Int32), (0 : Int32), (0 : Int32), (0 : Int32), (0 : Int32), (0 : Int32), (0 : Int32), (0 : Int32), (0 : Int32), (0 : Int32), (0 : Int32), (0 : Int32), (0 : Int32), (0 : Int32), (0 : Int32), (0 : Int32), (0 : Int32), (0 : Int32), (0 : Int32), (0 : Int32), (0 : Int32), (0 : Int32), (0 : Int32), (0 : Int32), (0 : Int32), (0 : Int32), (0 : Int32), (0 : Int32), (0 : Int32), (0 : Int32), (0 : Int32)] := V3
  have N3 := Fr.snoc X3 N2 g_b1
  have zn3 : n0 ≤ h3.size := by rw [W3.size]; exact zn2
  refine w_dup X3 hx (hb hby at_14) (pc' := 15) rfl rfl ?_
  refine w_iconst (v := 2) X3 hx (hb hby at_15) (pc' := 16) rfl rfl ?_
  refine w_bipush (v := 59) X3 hx (hb hby at_16) (pc' := 18) rfl rfl ?_
  refine w_iastore X3 hx hZ e3 V3 (by decide) (by show _ < 33; decide) (hb hby at_18) (pc' := 19) rfl (fun T4 h4 X4 e4 W4 V4 => ?_)
  have V4 : AI Z h4 b1 .int [(-2147483648 : Int32), (58 : Int32), (59 : Int32), (0 : Int32), (0 : Int32), (0 : Int32), (0 : Int32), (0 : Int32), (0 : Int32), (0 : Int32), (0 : Int32), (0 : Int32), (0 : Int32), (0 : Int32), (0 : Int32), (0 : Int32), (0 : Int32), (0 : Int32), (0 : Int32), (0 : Int32), (0 : Int32), (0 : Int32), (0 : Int32), (0 : Int32), (0 : Int32), (0 : Int32), (0 : Int32), (0 : Int32), (0 : Int32), (0 : Int32), (0 : Int32), (0 : Int32), (0 : Int32)] := V4
  have N4 := Fr.snoc X4 N3 g_b1
  have zn4 : n0 ≤ h4.size := by rw [W4.size]; exact zn3
  refine w_dup X4 hx (hb hby at_19) (pc' := 20) rfl rfl ?_
  refine w_iconst (v := 3) X4 hx (hb hby at_20) (pc' := 21) rfl rfl ?_
  refine w_bipush (v := 65) X4 hx (hb hby at_21) (pc' := 23) rfl rfl ?_
  refine w_iastore X4 hx hZ e4 V4 (by decide) (by show _ < 33; decide) (hb hby at_23) (pc' := 24) rfl (fun T5 h5 X5 e5 W5 V5 => ?_)
  have V5 : AI Z h5 b1 .int [(-2147483648 : Int32), (58 : Int32), (59 : Int32), (65 : Int32), (0 : Int32), (0 : Int32), (0 : Int32), (0 : Int32), (0 : Int32), (0 : Int32), (0 : Int32), (0 : Int32), (0 : Int32), (0 : Int32), (0 : Int32), (0 : Int32), (0 : Int32), (0 : Int32), (0 : Int32), (0 : Int32), (0 : Int32), (0 : Int32), (0 : Int32), (0 : Int32), (0 : Int32), (0 : Int32), (0 : Int32), (0 : Int32), (0 : Int32), (0 : Int32), (0 : Int32), (0 : Int32), (0 : Int32)] := V5
  have N5 := Fr.snoc X5 N4 g_b1
  have zn5 : n0 ≤ h5.size := by rw [W5.size]; exact zn4
  refine w_dup X5 hx (hb hby at_24) (pc' := 25) rfl rfl ?_
  refine w_iconst (v := 4) X5 hx (hb hby at_25) (pc' := 26) rfl rfl ?_
  refine w_bipush (v := 91) X5 hx (hb hby at_26) (pc' := 28) rfl rfl ?_
  refine w_iastore X5 hx hZ e5 V5 (by decide) (by show _ < 33; decide) (hb hby at_28) (pc' := 29) rfl (fun T6 h6 X6 e6 W6 V6 => ?_)
  have V6 : AI Z h6 b1 .int [(-2147483648 : Int32), (58 : Int32), (59 : Int32), (65 : Int32), (91 : Int32), (0 : Int32), (0 : Int32), (0 : Int32), (0 : Int32), (0 : Int32), (0 : Int32), (0 : Int32), (0 : Int32), (0 : Int32), (0 : Int32), (0 : Int32), (0 : Int32), (0 : Int32), (0 : Int32), (0 : Int32), (0 : Int32), (0 : Int32), (0 : Int32), (0 : Int32), (0 : Int32), (0 : Int32), (0 : Int32), (0 : Int32), (0 : Int32), (0 : Int32), (0 : Int32), (0 : Int32), (0 : Int32)] := V6
  have N6 := Fr.snoc X6 N5 g_b1
  have zn6 : n0 ≤ h6.size := by rw [W6.size]; exact zn5
  refine w_dup X6 hx (hb hby at_29) (pc' := 30) rfl rfl ?_
  refine w_iconst (v := 5) X6 hx (hb hby at_30) (pc' := 31) rfl rfl ?_
  refine w_bipush (v := 95) X6 hx (hb hby at_31) (pc' := 33) rfl rfl ?_
  refine w_iastore X6 hx hZ e6 V6 (by decide) (by show _ < 33; decide) (hb hby at_33) (pc' := 34) rfl (fun T7 h7 X7 e7 W7 V7 => ?_)
  have V7 : AI Z h7 b1 .int [(-2147483648 : Int32), (58 : Int32), (59 : Int32), (65 : Int32), (91 : Int32), (95 : Int32), (0 : Int32), (0 : Int32), (0 : Int32), (0 : Int32), (0 : Int32), (0 : Int32), (0 : Int32), (0 : Int32), (0 : Int32), (0 : Int32), (0 : Int32), (0 : Int32), (0 : Int32), (0 : Int32), (0 : Int32), (0 : Int32), (0 : Int32), (0 : Int32), (0 : Int32), (0 : Int32), (0 : Int32), (0 : Int32), (0 : Int32), (0 : Int32), (0 : Int32), (0 : Int32), (0 : Int32)] := V7
  have N7 := Fr.snoc X7 N6 g_b1
  have zn7 : n0 ≤ h7.size := by rw [W7.size]; exact zn6
  refine w_dup X7 hx (hb hby at_34) (pc' := 35) rfl rfl ?_
  refine w_bipush (v := 6) X7 hx (hb hby at_35) (pc' := 37) rfl rfl ?_
  refine w_bipush (v := 96) X7 hx (hb hby at_37) (pc' := 39) rfl rfl ?_
  refine w_iastore X7 hx hZ e7 V7 (by decide) (by show _ < 33; decide) (hb hby at_39) (pc' := 40) rfl (fun T8 h8 X8 e8 W8 V8 => ?_)
  have V8 : AI Z h8 b1 .int [(-2147483648 : Int32), (58 : Int32), (59 : Int32), (65 : Int32), (91 : Int32), (95 : Int32), (96 : Int32), (0 : Int32), (0 : Int32), (0 : Int32), (0 : Int32), (0 : Int32), (0 : Int32), (0 : Int32), (0 : Int32), (0 : Int32), (0 : Int32), (0 : Int32), (0 : Int32), (0 : Int32), (0 : Int32), (0 : Int32), (0 : Int32), (0 : Int32), (0 : Int32), (0 : Int32), (0 : Int32), (0 : Int32), (0 : Int32), (0 : Int32), (0 : Int32), (0 : Int32), (0 : Int32)] := V8
  have N8 := Fr.snoc X8 N7 g_b1
  have zn8 : n0 ≤ h8.size := by rw [W8.size]; exact zn7
  refine w_dup X8 hx (hb hby at_40) (pc' := 41) rfl rfl ?_
  refine w_bipush (v := 7) X8 hx (hb hby at_41) (pc' := 43) rfl rfl ?_
  refine w_bipush (v := 97) X8 hx (hb hby at_43) (pc' := 45) rfl rfl ?_
  refine w_iastore X8 hx hZ e8 V8 (by decide) (by show _ < 33; decide) (hb hby at_45) (pc' := 46) rfl (fun T9 h9 X9 e9 W9 V9 => ?_)
  have V9 : AI Z h9 b1 .int [(-2147483648 : Int32), (58 : Int32), (59 : Int32), (65 : Int32), (91 : Int32), (95 : Int32), (96 : Int32), (97 : Int32), (0 : Int32), (0 : Int32), (0 : Int32), (0 : Int32), (0 : Int32), (0 : Int32), (0 : Int32), (0 : Int32), (0 : Int32), (0 : Int32), (0 : Int32), (0 : Int32), (0 : Int32), (0 : Int32), (0 : Int32), (0 : Int32), (0 : Int32), (0 : Int32), (0 : Int32), (0 : Int32), (0 : Int32), (0 : Int32), (0 : Int32), (0 : Int32), (0 : Int32)] := V9
  have N9 := Fr.snoc X9 N8 g_b1
  have zn9 : n0 ≤ h9.size := by rw [W9.size]; exact zn8
  refine w_dup X9 hx (hb hby at_46) (pc' := 47) rfl rfl ?_
  refine w_bipush (v := 8) X9 hx (hb hby at_47) (pc' := 49) rfl rfl ?_
  refine w_bipush (v := 123) X9 hx (hb hby at_49) (pc' := 51) rfl rfl ?_
  refine w_iastore X9 hx hZ e9 V9 (by decide) (by show _ < 33; decide) (hb hby at_51) (pc' := 52) rfl (fun T10 h10 X10 e10 W10 V10 => ?_)
  have V10 : AI Z h10 b1 .int [(-2147483648 : Int32), (58 : Int32), (59 : Int32), (65 : Int32), (91 : Int32), (95 : Int32), (96 : Int32), (97 : Int32), (123 : Int32), (0 : Int32), (0 : Int32), (0 : Int32), (0 : Int32), (0 : Int32), (0 : Int32), (0 : Int32), (0 : Int32), (0 : Int32), (0 : Int32), (0 : Int32), (0 : Int32), (0 : Int32), (0 : Int32), (0 : Int32), (0 : Int32), (0 : Int32), (0 : Int32), (0 : Int32), (0 : Int32), (0 : Int32), (0 : Int32), (0 : Int32), (0 : Int32)] := V10
  have N10 := Fr.snoc X10 N9 g_b1
  have zn10 : n0 ≤ h10.size := by rw [W10.size]; exact zn9
  refine w_dup X10 hx (hb hby at_52) (pc' := 53) rfl rfl ?_
  refine w_bipush (v := 9) X10 hx (hb hby at_53) (pc' := 55) rfl rfl ?_
  refine w_sipush (v := 192) X10 hx (hb hby at_55) (pc' := 58) rfl rfl ?_
  refine w_iastore X10 hx hZ e10 V10 (by decide) (by show _ < 33; decide) (hb hby at_58) (pc' := 59) rfl (fun T11 h11 X11 e11 W11 V11 => ?_)
  have V11 : AI Z h11 b1 .int [(-2147483648 : Int32), (58 : Int32), (59 : Int32), (65 : Int32), (91 : Int32), (95 : Int32), (96 : Int32), (97 : Int32), (123 : Int32), (192 : Int32), (0 : Int32), (0 : Int32), (0 : Int32), (0 : Int32), (0 : Int32), (0 : Int32), (0 : Int32), (0 : Int32), (0 : Int32), (0 : Int32), (0 : Int32), (0 : Int32), (0 : Int32), (0 : Int32), (0 : Int32), (0 : Int32), (0 : Int32), (0 : Int32), (0 : Int32), (0 : Int32), (0 : Int32), (0 : Int32), (0 : Int32)] := V11
  have N11 := Fr.snoc X11 N10 g_b1
  have zn11 : n0 ≤ h11.size := by rw [W11.size]; exact zn10
  refine w_dup X11 hx (hb hby at_59) (pc' := 60) rfl rfl ?_
  refine w_bipush (v := 10) X11 hx (hb hby at_60) (pc' := 62) rfl rfl ?_
  refine w_sipush (v := 215) X11 hx (hb hby at_62) (pc' := 65) rfl rfl ?_
  refine w_iastore X11 hx hZ e11 V11 (by decide) (by show _ < 33; decide) (hb hby at_65) (pc' := 66) rfl (fun T12 h12 X12 e12 W12 V12 => ?_)
  have V12 : AI Z h12 b1 .int [(-2147483648 : Int32), (58 : Int32), (59 : Int32), (65 : Int32), (91 : Int32), (95 : Int32), (96 : Int32), (97 : Int32), (123 : Int32), (192 : Int32), (215 : Int32), (0 : Int32), (0 : Int32), (0 : Int32), (0 : Int32), (0 : Int32), (0 : Int32), (0 : Int32), (0 : Int32), (0 : Int32), (0 : Int32), (0 : Int32), (0 : Int32), (0 : Int32), (0 : Int32), (0 : Int32), (0 : Int32), (0 : Int32), (0 : Int32), (0 : Int32), (0 : Int32), (0 : Int32), (0 : Int32)] := V12
  have N12 := Fr.snoc X12 N11 g_b1
  have zn12 : n0 ≤ h12.size := by rw [W12.size]; exact zn11
  refine w_dup X12 hx (hb hby at_66) (pc' := 67) rfl rfl ?_
  refine w_bipush (v := 11) X12 hx (hb hby at_67) (pc' := 69) rfl rfl ?_
  refine w_sipush (v := 216) X12 hx (hb hby at_69) (pc' := 72) rfl rfl ?_
  refine w_iastore X12 hx hZ e12 V12 (by decide) (by show _ < 33; decide) (hb hby at_72) (pc' := 73) rfl (fun T13 h13 X13 e13 W13 V13 => ?_)
  have V13 : AI Z h13 b1 .int [(-2147483648 : Int32), (58 : Int32), (59 : Int32), (65 : Int32), (91 : Int32), (95 : Int32), (96 : Int32), (97 : Int32), (123 : Int32), (192 : Int32), (215 : Int32), (216 : Int32), (0 : Int32), (0 : Int32), (0 : Int32), (0 : Int32), (0 : Int32), (0 : Int32), (0 : Int32), (0 : Int32), (0 : Int32), (0 : Int32), (0 : Int32), (0 : Int32), (0 : Int32), (0 : Int32), (0 : Int32), (0 : Int32), (0 : Int32), (0 : Int32), (0 : Int32), (0 : Int32), (0 : Int32)] := V13
  have N13 := Fr.snoc X13 N12 g_b1
  have zn13 : n0 ≤ h13.size := by rw [W13.size]; exact zn12
  refine w_dup X13 hx (hb hby at_73) (pc' := 74) rfl rfl ?_
  refine w_bipush (v := 12) X13 hx (hb hby at_74) (pc' := 76) rfl rfl ?_
  refine w_sipush (v := 247) X13 hx (hb hby at_76) (pc' := 79) rfl rfl ?_
  refine w_iastore X13 hx hZ e13 V13 (by decide) (by show _ < 33; decide) (hb hby at_79) (pc' := 80) rfl (fun T14 h14 X14 e14 W14 V14 => ?_)
  have V14 : AI Z h14 b1 .int [(-2147483648 : Int32), (58 : Int32), (59 : Int32), (65 : Int32), (91 : Int32), (95 : Int32), (96 : Int32), (97 : Int32), (123 : Int32), (192 : Int32), (215 : Int32), (216 : Int32), (247 : Int32), (0 : Int32), (0 : Int32), (0 : Int32), (0 : Int32), (0 : Int32), (0 : Int32), (0 : Int32), (0 : Int32), (0 : Int32), (0 : Int32), (0 : Int32), (0 : Int32), (0 : Int32), (0 : Int32), (0 : Int32), (0 : Int32), (0 : Int32), (0 : Int32), (0 : Int32), (0 : Int32)] := V14
  have N14 := Fr.snoc X14 N13 g_b1
  have zn14 : n0 ≤ h14.size := by rw [W14.size]; exact zn13
  refine w_dup X14 hx (hb hby at_80) (pc' := 81) rfl rfl ?_
  refine w_bipush (v := 13) X14 hx (hb hby at_81) (pc' := 83) rfl rfl ?_
  refine w_sipush (v := 248) X14 hx (hb hby at_83) (pc' := 86) rfl rfl ?_
  refine w_iastore X14 hx hZ e14 V14 (by decide) (by show _ < 33; decide) (hb hby at_86) (pc' := 87) rfl (fun T15 h15 X15 e15 W15 V15 => ?_)
  have V15 : AI Z h15 b1 .int [(-2147483648 : Int32), (58 : Int32), (59 : Int32), (65 : Int32), (91 : Int32), (95 : Int32), (96 : Int32), (97 : Int32), (123 : Int32), (192 : Int32), (215 : Int32), (216 : Int32), (247 : Int32), (248 : Int32), (0 : Int32), (0 : Int32), (0 : Int32), (0 : Int32), (0 : Int32), (0 : Int32), (0 : Int32), (0 : Int32), (0 : Int32), (0 : Int32), (0 : Int32), (0 : Int32), (0 : Int32), (0 : Int32), (0 : Int32), (0 : Int32), (0 : Int32), (0 : Int32), (0 : Int32)] := V15
  have N15 := Fr.snoc X15 N14 g_b1
  have zn15 : n0 ≤ h15.size := by rw [W15.size]; exact zn14
  refine w_dup X15 hx (hb hby at_87) (pc' := 88) rfl rfl ?_
  refine w_bipush (v := 14) X15 hx (hb hby at_88) (pc' := 90) rfl rfl ?_
  refine w_sipush (v := 768) X15 hx (hb hby at_90) (pc' := 93) rfl rfl ?_
  refine w_iastore X15 hx hZ e15 V15 (by decide) (by show _ < 33; decide) (hb hby at_93) (pc' := 94) rfl (fun T16 h16 X16 e16 W16 V16 => ?_)
  have V16 : AI Z h16 b1 .int [(-2147483648 : Int32), (58 : Int32), (59 : Int32), (65 : Int32), (91 : Int32), (95 : Int32), (96 : Int32), (97 : Int32), (123 : Int32), (192 : Int32), (215 : Int32), (216 : Int32), (247 : Int32), (248 : Int32), (768 : Int32), (0 : Int32), (0 : Int32), (0 : Int32), (0 : Int32), (0 : Int32), (0 : Int32), (0 : Int32), (0 : Int32), (0 : Int32), (0 : Int32), (0 : Int32), (0 : Int32), (0 : Int32), (0 : Int32), (0 : Int32), (0 : Int32), (0 : Int32), (0 : Int32)] := V16
  have N16 := Fr.snoc X16 N15 g_b1
  have zn16 : n0 ≤ h16.size := by rw [W16.size]; exact zn15
  refine w_dup X16 hx (hb hby at_94) (pc' := 95) rfl rfl ?_
  refine w_bipush (v := 15) X16 hx (hb hby at_95) (pc' := 97) rfl rfl ?_
  refine w_sipush (v := 880) X16 hx (hb hby at_97) (pc' := 100) rfl rfl ?_
  refine w_iastore X16 hx hZ e16 V16 (by decide) (by show _ < 33; decide) (hb hby at_100) (pc' := 101) rfl (fun T17 h17 X17 e17 W17 V17 => ?_)
  have V17 : AI Z h17 b1 .int [(-2147483648 : Int32), (58 : Int32), (59 : Int32), (65 : Int32), (91 : Int32), (95 : Int32), (96 : Int32), (97 : Int32), (123 : Int32), (192 : Int32), (215 : Int32), (216 : Int32), (247 : Int32), (248 : Int32), (768 : Int32), (880 : Int32), (0 : Int32), (0 : Int32), (0 : Int32), (0 : Int32), (0 : Int32), (0 : Int32), (0 : Int32), (0 : Int32), (0 : Int32), (0 : Int32), (0 : Int32), (0 : Int32), (0 : Int32), (0 : Int32), (0 : Int32), (0 : Int32), (0 : Int32)] := V17
  have N17 := Fr.snoc X17 N16 g_b1
  have zn17 : n0 ≤ h17.size := by rw [W17.size]; exact zn16
  refine w_dup X17 hx (hb hby at_101) (pc' := 102) rfl rfl ?_
  refine w_bipush (v := 16) X17 hx (hb hby at_102) (pc' := 104) rfl rfl ?_
  refine w_sipush (v := 894) X17 hx (hb hby at_104) (pc' := 107) rfl rfl ?_
  refine w_iastore X17 hx hZ e17 V17 (by decide) (by show _ < 33; decide) (hb hby at_107) (pc' := 108) rfl (fun T18 h18 X18 e18 W18 V18 => ?_)
  have V18 : AI Z h18 b1 .int [(-2147483648 : Int32), (58 : Int32), (59 : Int32), (65 : Int32), (91 : Int32), (95 : Int32), (96 : Int32), (97 : Int32), (123 : Int32), (192 : Int32), (215 : Int32), (216 : Int32), (247 : Int32), (248 : Int32), (768 : Int32), (880 : Int32), (894 : Int32), (0 : Int32), (0 : Int32), (0 : Int32), (0 : Int32), (0 : Int32), (0 : Int32), (0 : Int32), (0 : Int32), (0 : Int32), (0 : Int32), (0 : Int32), (0 : Int32), (0 : Int32), (0 : Int32), (0 : Int32), (0 : Int32)] := V18
  have N18 := Fr.snoc X18 N17 g_b1
  have zn18 : n0 ≤ h18.size := by rw [W18.size]; exact zn17
  refine w_dup X18 hx (hb hby at_108) (pc' := 109) rfl rfl ?_
  refine w_bipush (v := 17) X18 hx (hb hby at_109) (pc' := 111) rfl rfl ?_
  refine w_sipush (v := 895) X18 hx (hb hby at_111) (pc' := 114) rfl rfl ?_
  refine w_iastore X18 hx hZ e18 V18 (by decide) (by show _ < 33; decide) (hb hby at_114) (pc' := 115) rfl (fun T19 h19 X19 e19 W19 V19 => ?_)
  have V19 : AI Z h19 b1 .int [(-2147483648 : Int32), (58 : Int32), (59 : Int32), (65 : Int32), (91 : Int32), (95 : Int32), (96 : Int32), (97 : Int32), (123 : Int32), (192 : Int32), (215 : Int32), (216 : Int32), (247 : Int32), (248 : Int32), (768 : Int32), (880 : Int32), (894 : Int32), (895 : Int32), (0 : Int32), (0 : Int32), (0 : Int32), (0 : Int32), (0 : Int32), (0 : Int32), (0 : Int32), (0 : Int32), (0 : Int32), (0 : Int32), (0 : Int32), (0 : Int32), (0 : Int32), (0 : Int32), (0 : Int32)] := V19
  have N19 := Fr.snoc X19 N18 g_b1
  have zn19 : n0 ≤ h19.size := by rw [W19.size]; exact zn18
  refine w_dup X19 hx (hb hby at_115) (pc' := 116) rfl rfl ?_
  refine w_bipush (v := 18) X19 hx (hb hby at_116) (pc' := 118) rfl rfl ?_
  refine w_sipush (v := 8192) X19 hx (hb hby at_118) (pc' := 121) rfl rfl ?_
  refine w_iastore X19 hx hZ e19 V19 (by decide) (by show _ < 33; decide) (hb hby at_121) (pc' := 122) rfl (fun T20 h20 X20 e20 W20 V20 => ?_)
  have V20 : AI Z h20 b1 .int [(-2147483648 : Int32), (58 : Int32), (59 : Int32), (65 : Int32), (91 : Int32), (95 : Int32), (96 : Int32), (97 : Int32), (123 : Int32), (192 : Int32), (215 : Int32), (216 : Int32), (247 : Int32), (248 : Int32), (768 : Int32), (880 : Int32), (894 : Int32), (895 : Int32), (8192 : Int32), (0 : Int32), (0 : Int32), (0 : Int32), (0 : Int32), (0 : Int32), (0 : Int32), (0 : Int32), (0 : Int32), (0 : Int32), (0 : Int32), (0 : Int32), (0 : Int32), (0 : Int32), (0 : Int32)] := V20
  have N20 := Fr.snoc X20 N19 g_b1
  have zn20 : n0 ≤ h20.size := by rw [W20.size]; exact zn19
  refine w_dup X20 hx (hb hby at_122) (pc' := 123) rfl rfl ?_
  refine w_bipush (v := 19) X20 hx (hb hby at_123) (pc' := 125) rfl rfl ?_
  refine w_sipush (v := 8204) X20 hx (hb hby at_125) (pc' := 128) rfl rfl ?_
  refine w_iastore X20 hx hZ e20 V20 (by decide) (by show _ < 33; decide) (hb hby at_128) (pc' := 129) rfl (fun T21 h21 X21 e21 W21 V21 => ?_)
  have V21 : AI Z h21 b1 .int [(-2147483648 : Int32), (58 : Int32), (59 : Int32), (65 : Int32), (91 : Int32), (95 : Int32), (96 : Int32), (97 : Int32), (123 : Int32), (192 : Int32), (215 : Int32), (216 : Int32), (247 : Int32), (248 : Int32), (768 : Int32), (880 : Int32), (894 : Int32), (895 : Int32), (8192 : Int32), (8204 : Int32), (0 : Int32), (0 : Int32), (0 : Int32), (0 : Int32), (0 : Int32), (0 : Int32), (0 : Int32), (0 : Int32), (0 : Int32), (0 : Int32), (0 : Int32), (0 : Int32), (0 : Int32)] := V21
  have N21 := Fr.snoc X21 N20 g_b1
  have zn21 : n0 ≤ h21.size := by rw [W21.size]; exact zn20
  refine w_dup X21 hx (hb hby at_129) (pc' := 130) rfl rfl ?_
  refine w_bipush (v := 20) X21 hx (hb hby at_130) (pc' := 132) rfl rfl ?_
  refine w_sipush (v := 8206) X21 hx (hb hby at_132) (pc' := 135) rfl rfl ?_
  refine w_iastore X21 hx hZ e21 V21 (by decide) (by show _ < 33; decide) (hb hby at_135) (pc' := 136) rfl (fun T22 h22 X22 e22 W22 V22 => ?_)
  have V22 : AI Z h22 b1 .int [(-2147483648 : Int32), (58 : Int32), (59 : Int32), (65 : Int32), (91 : Int32), (95 : Int32), (96 : Int32), (97 : Int32), (123 : Int32), (192 : Int32), (215 : Int32), (216 : Int32), (247 : Int32), (248 : Int32), (768 : Int32), (880 : Int32), (894 : Int32), (895 : Int32), (8192 : Int32), (8204 : Int32), (8206 : Int32), (0 : Int32), (0 : Int32), (0 : Int32), (0 : Int32), (0 : Int32), (0 : Int32), (0 : Int32), (0 : Int32), (0 : Int32), (0 : Int32), (0 : Int32), (0 : Int32)] := V22
  have N22 := Fr.snoc X22 N21 g_b1
  have zn22 : n0 ≤ h22.size := by rw [W22.size]; exact zn21
  refine w_dup X22 hx (hb hby at_136) (pc' := 137) rfl rfl ?_
  refine w_bipush (v := 21) X22 hx (hb hby at_137) (pc' := 139) rfl rfl ?_
  refine w_sipush (v := 8304) X22 hx (hb hby at_139) (pc' := 142) rfl rfl ?_
  refine w_iastore X22 hx hZ e22 V22 (by decide) (by show _ < 33; decide) (hb hby at_142) (pc' := 143) rfl (fun T23 h23 X23 e23 W23 V23 => ?_)
  have V23 : AI Z h23 b1 .int [(-2147483648 : Int32), (58 : Int32), (59 : Int32), (65 : Int32), (91 : Int32), (95 : Int32), (96 : Int32), (97 : Int32), (123 : Int32), (192 : Int32), (215 : Int32), (216 : Int32), (247 : Int32), (248 : Int32), (768 : Int32), (880 : Int32), (894 : Int32), (895 : Int32), (8192 : Int32), (8204 : Int32), (8206 : Int32), (8304 : Int32), (0 : Int32), (0 : Int32), (0 : Int32), (0 : Int32), (0 : Int32), (0 : Int32), (0 : Int32), (0 : Int32), (0 : Int32), (0 : Int32), (0 : Int32)] := V23
  have N23 := Fr.snoc X23 N22 g_b1
  have zn23 : n0 ≤ h23.size := by rw [W23.size]; exact zn22
  refine w_dup X23 hx (hb hby at_143) (pc' := 144) rfl rfl ?_
  refine w_bipush (v := 22) X23 hx (hb hby at_144) (pc' := 146) rfl rfl ?_
  refine w_sipush (v := 8592) X23 hx (hb hby at_146) (pc' := 149) rfl rfl ?_
  refine w_iastore X23 hx hZ e23 V23 (by decide) (by show _ < 33; decide) (hb hby at_149) (pc' := 150) rfl (fun T24 h24 X24 e24 W24 V24 => ?_)
  have V24 : AI Z h24 b1 .int [(-2147483648 : Int32), (58 : Int32), (59 : Int32), (65 : Int32), (91 : Int32), (95 : Int32), (96 : Int32), (97 : Int32), (123 : Int32), (192 : Int32), (215 : Int32), (216 : Int32), (247 : Int32), (248 : Int32), (768 : Int32), (880 : Int32), (894 : Int32), (895 : Int32), (8192 : Int32), (8204 : Int32), (8206 : Int32), (8304 : Int32), (8592 : Int32), (0 : Int32), (0 : Int32), (0 : Int32), (0 : Int32), (0 : Int32), (0 : Int32), (0 : Int32), (0 : Int32), (0 : Int32), (0 : Int32)] := V24
  have N24 := Fr.snoc X24 N23 g_b1
  have zn24 : n0 ≤ h24.size := by rw [W24.size]; exact zn23
  refine w_dup X24 hx (hb hby at_150) (pc' := 151) rfl rfl ?_
  refine w_bipush (v := 23) X24 hx (hb hby at_151) (pc' := 153) rfl rfl ?_
  refine w_sipush (v := 11264) X24 hx (hb hby at_153) (pc' := 156) rfl rfl ?_
  refine w_iastore X24 hx hZ e24 V24 (by decide) (by show _ < 33; decide) (hb hby at_156) (pc' := 157) rfl (fun T25 h25 X25 e25 W25 V25 => ?_)
  have V25 : AI Z h25 b1 .int [(-2147483648 : Int32), (58 : Int32), (59 : Int32), (65 : Int32), (91 : Int32), (95 : Int32), (96 : Int32), (97 : Int32), (123 : Int32), (192 : Int32), (215 : Int32), (216 : Int32), (247 : Int32), (248 : Int32), (768 : Int32), (880 : Int32), (894 : Int32), (895 : Int32), (8192 : Int32), (8204 : Int32), (8206 : Int32), (8304 : Int32), (8592 : Int32), (11264 : Int32), (0 : Int32), (0 : Int32), (0 : Int32), (0 : Int32), (0 : Int32), (0 : Int32), (0 : Int32), (0 : Int32), (0 : Int32)] := V25
  have N25 := Fr.snoc X25 N24 g_b1
  have zn25 : n0 ≤ h25.size := by rw [W25.size]; exact zn24
  refine w_dup X25 hx (hb hby at_157) (pc' := 158) rfl rfl ?_
  refine w_bipush (v := 24) X25 hx (hb hby at_158) (pc' := 160) rfl rfl ?_
  refine w_sipush (v := 12272) X25 hx (hb hby at_160) (pc' := 163) rfl rfl ?_
  refine w_iastore X25 hx hZ e25 V25 (by decide) (by show _ < 33; decide) (hb hby at_163) (pc' := 164) rfl (fun T26 h26 X26 e26 W26 V26 => ?_)
  have V26 : AI Z h26 b1 .int [(-2147483648 : Int32), (58 : Int32), (59 : Int32), (65 : Int32), (91 : Int32), (95 : Int32), (96 : Int32), (97 : Int32), (123 : Int32), (192 : Int32), (215 : Int32), (216 : Int32), (247 : Int32), (248 : Int32), (768 : Int32), (880 : Int32), (894 : Int32), (895 : Int32), (8192 : Int32), (8204 : Int32), (8206 : Int32), (8304 : Int32), (8592 : Int32), (11264 : Int32), (12272 : Int32), (0 : Int32), (0 : Int32), (0 : Int32), (0 : Int32), (0 : Int32), (0 : Int32), (0 : Int32), (0 : Int32)] := V26
  have N26 := Fr.snoc X26 N25 g_b1
  have zn26 : n0 ≤ h26.size := by rw [W26.size]; exact zn25
  refine w_dup X26 hx (hb hby at_164) (pc' := 165) rfl rfl ?_
  refine w_bipush (v := 25) X26 hx (hb hby at_165) (pc' := 167) rfl rfl ?_
  refine w_sipush (v := 12289) X26 hx (hb hby at_167) (pc' := 170) rfl rfl ?_
  refine w_iastore X26 hx hZ e26 V26 (by decide) (by show _ < 33; decide) (hb hby at_170) (pc' := 171) rfl (fun T27 h27 X27 e27 W27 V27 => ?_)
  have V27 : AI Z h27 b1 .int [(-2147483648 : Int32), (58 : Int32), (59 : Int32), (65 : Int32), (91 : Int32), (95 : Int32), (96 : Int32), (97 : Int32), (123 : Int32), (192 : Int32), (215 : Int32), (216 : Int32), (247 : Int32), (248 : Int32), (768 : Int32), (880 : Int32), (894 : Int32), (895 : Int32), (8192 : Int32), (8204 : Int32), (8206 : Int32), (8304 : Int32), (8592 : Int32), (11264 : Int32), (12272 : Int32), (12289 : Int32), (0 : Int32), (0 : Int32), (0 : Int32), (0 : Int32), (0 : Int32), (0 : Int32), (0 : Int32)] := V27
  have N27 := Fr.snoc X27 N26 g_b1
  have zn27 : n0 ≤ h27.size := by rw [W27.size]; exact zn26
  refine w_dup X27 hx (hb hby at_171) (pc' := 172) rfl rfl ?_
  refine w_bipush (v := 26) X27 hx (hb hby at_172) (pc' := 174) rfl rfl ?_
  refine w_ldc X27 hx hZ hown (hw _ (List.mem_of_getElem? (i := 2) rfl)) (hb hby at_174) (pc' := 176) rfl ?_
  refine w_iastore X27 hx hZ e27 V27 (by decide) (by show _ < 33; decide) (hb hby at_176) (pc' := 177) rfl (fun T28 h28 X28 e28 W28 V28 => ?_)
  have V28 : AI Z h28 b1 .int [(-2147483648 : Int32), (58 : Int32), (59 : Int32), (65 : Int32), (91 : Int32), (95 : Int32), (96 : Int32), (97 : Int32), (123 : Int32), (192 : Int32), (215 : Int32), (216 : Int32), (247 : Int32), (248 : Int32), (768 : Int32), (880 : Int32), (894 : Int32), (895 : Int32), (8192 : Int32), (8204 : Int32), (8206 : Int32), (8304 : Int32), (8592 : Int32), (11264 : Int32), (12272 : Int32), (12289 : Int32), (55296 : Int32), (0 : Int32), (0 : Int32), (0 : Int32), (0 : Int32), (0 : Int32), (0 : Int32)] := V28
  have N28 := Fr.snoc X28 N27 g_b1
  have zn28 : n0 ≤ h28.size := by rw [W28.size]; exact zn27
  refine w_dup X28 hx (hb hby at_177) (pc' := 178) rfl rfl ?_
  refine w_bipush (v := 27) X28 hx (hb hby at_178) (pc' := 180) rfl rfl ?_
  refine w_ldc X28 hx hZ hown (hw _ (List.mem_of_getElem? (i := 3) rfl)) (hb hby at_180) (pc' := 182) rfl ?_
  refine w_iastore X28 hx hZ e28 V28 (by decide) (by show _ < 33; decide) (hb hby at_182) (pc' := 183) rfl (fun T29 h29 X29 e29 W29 V29 => ?_)
  have V29 : AI Z h29 b1 .int [(-2147483648 : Int32), (58 : Int32), (59 : Int32), (65 : Int32), (91 : Int32), (95 : Int32), (96 : Int32), (97 : Int32), (123 : Int32), (192 : Int32), (215 : Int32), (216 : Int32), (247 : Int32), (248 : Int32), (768 : Int32), (880 : Int32), (894 : Int32), (895 : Int32), (8192 : Int32), (8204 : Int32), (8206 : Int32), (8304 : Int32), (8592 : Int32), (11264 : Int32), (12272 : Int32), (12289 : Int32), (55296 : Int32), (63744 : Int32), (0 : Int32), (0 : Int32), (0 : Int32), (0 : Int32), (0 : Int32)] := V29
  have N29 := Fr.snoc X29 N28 g_b1
  have zn29 : n0 ≤ h29.size := by rw [W29.size]; exact zn28
  refine w_dup X29 hx (hb hby at_183) (pc' := 184) rfl rfl ?_
  refine w_bipush (v := 28) X29 hx (hb hby at_184) (pc' := 186) rfl rfl ?_
  refine w_ldc X29 hx hZ hown (hw _ (List.mem_of_getElem? (i := 4) rfl)) (hb hby at_186) (pc' := 188) rfl ?_
  refine w_iastore X29 hx hZ e29 V29 (by decide) (by show _ < 33; decide) (hb hby at_188) (pc' := 189) rfl (fun T30 h30 X30 e30 W30 V30 => ?_)
  have V30 : AI Z h30 b1 .int [(-2147483648 : Int32), (58 : Int32), (59 : Int32), (65 : Int32), (91 : Int32), (95 : Int32), (96 : Int32), (97 : Int32), (123 : Int32), (192 : Int32), (215 : Int32), (216 : Int32), (247 : Int32), (248 : Int32), (768 : Int32), (880 : Int32), (894 : Int32), (895 : Int32), (8192 : Int32), (8204 : Int32), (8206 : Int32), (8304 : Int32), (8592 : Int32), (11264 : Int32), (12272 : Int32), (12289 : Int32), (55296 : Int32), (63744 : Int32), (64976 : Int32), (0 : Int32), (0 : Int32), (0 : Int32), (0 : Int32)] := V30
  have N30 := Fr.snoc X30 N29 g_b1
  have zn30 : n0 ≤ h30.size := by rw [W30.size]; exact zn29
  refine w_dup X30 hx (hb hby at_189) (pc' := 190) rfl rfl ?_
  refine w_bipush (v := 29) X30 hx (hb hby at_190) (pc' := 192) rfl rfl ?_
  refine w_ldc X30 hx hZ hown (hw _ (List.mem_of_getElem? (i := 5) rfl)) (hb hby at_192) (pc' := 194) rfl ?_
  refine w_iastore X30 hx hZ e30 V30 (by decide) (by show _ < 33; decide) (hb hby at_194) (pc' := 195) rfl (fun T31 h31 X31 e31 W31 V31 => ?_)
  have V31 : AI Z h31 b1 .int [(-2147483648 : Int32), (58 : Int32), (59 : Int32), (65 : Int32), (91 : Int32), (95 : Int32), (96 : Int32), (97 : Int32), (123 : Int32), (192 : Int32), (215 : Int32), (216 : Int32), (247 : Int32), (248 : Int32), (768 : Int32), (880 : Int32), (894 : Int32), (895 : Int32), (8192 : Int32), (8204 : Int32), (8206 : Int32), (8304 : Int32), (8592 : Int32), (11264 : Int32), (12272 : Int32), (12289 : Int32), (55296 : Int32), (63744 : Int32), (64976 : Int32), (65008 : Int32), (0 : Int32), (0 : Int32), (0 : Int32)] := V31
  have N31 := Fr.snoc X31 N30 g_b1
  have zn31 : n0 ≤ h31.size := by rw [W31.size]; exact zn30
  refine w_dup X31 hx (hb hby at_195) (pc' := 196) rfl rfl ?_
  refine w_bipush (v := 30) X31 hx (hb hby at_196) (pc' := 198) rfl rfl ?_
  refine w_ldc X31 hx hZ hown (hw _ (List.mem_of_getElem? (i := 6) rfl)) (hb hby at_198) (pc' := 200) rfl ?_
  refine w_iastore X31 hx hZ e31 V31 (by decide) (by show _ < 33; decide) (hb hby at_200) (pc' := 201) rfl (fun T32 h32 X32 e32 W32 V32 => ?_)
  have V32 : AI Z h32 b1 .int [(-2147483648 : Int32), (58 : Int32), (59 : Int32), (65 : Int32), (91 : Int32), (95 : Int32), (96 : Int32), (97 : Int32), (123 : Int32), (192 : Int32), (215 : Int32), (216 : Int32), (247 : Int32), (248 : Int32), (768 : Int32), (880 : Int32), (894 : Int32), (895 : Int32), (8192 : Int32), (8204 : Int32), (8206 : Int32), (8304 : Int32), (8592 : Int32), (11264 : Int32), (12272 : Int32), (12289 : Int32), (55296 : Int32), (63744 : Int32), (64976 : Int32), (65008 : Int32), (65534 : Int32), (0 : Int32), (0 : Int32)] := V32
  have N32 := Fr.snoc X32 N31 g_b1
  have zn32 : n0 ≤ h32.size := by rw [W32.size]; exact zn31
  refine w_dup X32 hx (hb hby at_201) (pc' := 202) rfl rfl ?_
  refine w_bipush (v := 31) X32 hx (hb hby at_202) (pc' := 204) rfl rfl ?_
  refine w_ldc X32 hx hZ hown (hw _ (List.mem_of_getElem? (i := 7) rfl)) (hb hby at_204) (pc' := 206) rfl ?_
  refine w_iastore X32 hx hZ e32 V32 (by decide) (by show _ < 33; decide) (hb hby at_206) (pc' := 207) rfl (fun T33 h33 X33 e33 W33 V33 => ?_)
  have V33 : AI Z h33 b1 .int [(-2147483648 : Int32), (58 : Int32), (59 : Int32), (65 : Int32), (91 : Int32), (95 : Int32), (96 : Int32), (97 : Int32), (123 : Int32), (192 : Int32), (215 : Int32), (216 : Int32), (247 : Int32), (248 : Int32), (768 : Int32), (880 : Int32), (894 : Int32), (895 : Int32), (8192 : Int32), (8204 : Int32), (8206 : Int32), (8304 : Int32), (8592 : Int32), (11264 : Int32), (12272 : Int32), (12289 : Int32), (55296 : Int32), (63744 : Int32), (64976 : Int32), (65008 : Int32), (65534 : Int32), (65536 : Int32), (0 : Int32)] := V33
  have N33 := Fr.snoc X33 N32 g_b1
  have zn33 : n0 ≤ h33.size := by rw [W33.size]; exact zn32
  refine w_dup X33 hx (hb hby at_207) (pc' := 208) rfl rfl ?_
  refine w_bipush (v := 32) X33 hx (hb hby at_208) (pc' := 210) rfl rfl ?_
  refine w_ldc X33 hx hZ hown (hw _ (List.mem_of_getElem? (i := 8) rfl)) (hb hby at_210) (pc' := 212) rfl ?_
  refine w_iastore X33 hx hZ e33 V33 (by decide) (by show _ < 33; decide) (hb hby at_212) (pc' := 213) rfl (fun T34 h34 X34 e34 W34 V34 => ?_)
  have V34 : AI Z h34 b1 .int [(-2147483648 : Int32), (58 : Int32), (59 : Int32), (65 : Int32), (91 : Int32), (95 : Int32), (96 : Int32), (97 : Int32), (123 : Int32), (192 : Int32), (215 : Int32), (216 : Int32), (247 : Int32), (248 : Int32), (768 : Int32), (880 : Int32), (894 : Int32), (895 : Int32), (8192 : Int32), (8204 : Int32), (8206 : Int32), (8304 : Int32), (8592 : Int32), (11264 : Int32), (12272 : Int32), (12289 : Int32), (55296 : Int32), (63744 : Int32), (64976 : Int32), (65008 : Int32), (65534 : Int32), (65536 : Int32), (983040 : Int32)] := V34
  have N34 := Fr.snoc X34 N33 g_b1
  have zn34 : n0 ≤ h34.size := by rw [W34.size]; exact zn33
  refine w_astoreN (Ls' := #[.val (.int x0), .val (.int x1), .val (.int x2), .val (.ref b1), .unset, .unset, .unset, .unset, .unset, .unset, .unset, .unset, .unset, .unset]) X34 hx (hb hby at_213) (pc' := 214) rfl rfl rfl ?_
  refine w_iloadN X34 hx (hb hby at_214) (pc' := 215) rfl rfl ?_
  refine w_ldc X34 hx hZ hown (hw _ (List.mem_of_getElem? (i := 9) rfl)) (hb hby at_215) (pc' := 217) rfl ?_
  refine w_iand X34 hx (hb hby at_217) (pc' := 218) rfl ?_
  refine w_bipush (v := 33) X34 hx (hb hby at_218) (pc' := 220) rfl rfl ?_
  refine w_irem X34 hx (hb hby at_220) (pc' := 221) rfl (by decide) ?_
  refine w_istore (Ls' := #[.val (.int x0), .val (.int x1), .val (.int x2), .val (.ref b1), .val (.int ((x0 &&& (2147483647 : Int32)) % (33 : Int32))), .unset, .unset, .unset, .unset, .unset, .unset, .unset, .unset, .unset]) X34 hx (hb hby at_221) (pc' := 223) rfl rfl ?_
  obtain ⟨ix, hix⟩ : ∃ z : Int32, z = ((x0 &&& (2147483647 : Int32)) % (33 : Int32)) := ⟨_, rfl⟩
  rw [← hix]
  refine w_aloadN X34 hx (hb hby at_223) (pc' := 224) rfl rfl rfl ?_
  refine w_iload X34 hx (hb hby at_224) (pc' := 226) rfl rfl ?_
  refine w_iaload X34 hx hZ e34 V34 (v := (own_tab.getD ix.toNatClampNeg 0)) (own_ix hix).2.2.1 (own_getD (own_ix hix).2.2.2.1) (hb hby at_226) (pc' := 227) rfl ?_
  refine w_istore (Ls' := #[.val (.int x0), .val (.int x1), .val (.int x2), .val (.ref b1), .val (.int ix), .val (.int (own_tab.getD ix.toNatClampNeg 0)), .unset, .unset, .unset, .unset, .unset, .unset, .unset, .unset]) X34 hx (hb hby at_227) (pc' := 229) rfl rfl ?_
  obtain ⟨lo, hlo⟩ : ∃ z : Int32, z = (own_tab.getD ix.toNatClampNeg 0) := ⟨_, rfl⟩
  rw [← hlo]
  refine w_iload X34 hx (hb hby at_229) (pc' := 231) rfl rfl ?_
  refine w_bipush (v := 32) X34 hx (hb hby at_231) (pc' := 233) rfl rfl ?_
  have J249_36 : ∀ (v35 : Int32), v35 = (if ix = (32 : Int32) then (2147483647 : Int32) else ((own_tab.getD (ix + (1 : Int32)).toNatClampNeg 0) - (1 : Int32))) → Go p e below s room_1.cells room_1.slots (QL (some (.int 1)) n0) T34 (mkF m 249 #[.val (.int x0), .val (.int x1), .val (.int x2), .val (.ref b1), .val (.int ix), .val (.int lo), .unset, .unset, .unset, .unset, .unset, .unset, .unset, .unset] [(.int v35)]) := by
    intro v35 hv35
    refine w_istore (Ls' := #[.val (.int x0), .val (.int x1), .val (.int x2), .val (.ref b1), .val (.int ix), .val (.int lo), .val (.int v35), .unset, .unset, .unset, .unset, .unset, .unset, .unset]) X34 hx (hb hby at_249) (pc' := 251) rfl rfl ?_
    refine w_iload X34 hx (hb hby at_251) (pc' := 253) rfl rfl ?_
    refine w_i2l X34 hx (hb hby at_253) (pc' := 254) rfl ?_
    refine w_iload X34 hx (hb hby at_254) (pc' := 256) rfl rfl ?_
    refine w_i2l X34 hx (hb hby at_256) (pc' := 257) rfl ?_
    refine w_lsub X34 hx (hb hby at_257) (pc' := 258) rfl ?_
    refine w_lconst (v := 1) X34 hx (hb hby at_258) (pc' := 259) rfl rfl ?_
    refine w_ladd X34 hx (hb hby at_259) (pc' := 260) rfl ?_
    refine w_lstore (Ls' := #[.val (.int x0), .val (.int x1), .val (.int x2), .val (.ref b1), .val (.int ix), .val (.int lo), .val (.int v35), .val (.long ((v35.toInt64 - lo.toInt64) + (1 : Int64))), .second, .unset, .unset, .unset, .unset, .unset]) X34 hx (hb hby at_260) (pc' := 262) rfl rfl ?_
    obtain ⟨len, hlen⟩ : ∃ z : Int64, z = ((v35.toInt64 - lo.toInt64) + (1 : Int64)) := ⟨_, rfl⟩
    rw [← hlen]
    refine w_iloadN X34 hx (hb hby at_262) (pc' := 263) rfl rfl ?_
    refine w_iconst (v := 3) X34 hx (hb hby at_263) (pc' := 264) rfl rfl ?_
    refine w_iand X34 hx (hb hby at_264) (pc' := 265) rfl ?_
    refine w_istore (Ls' := #[.val (.int x0), .val (.int x1), .val (.int x2), .val (.ref b1), .val (.int ix), .val (.int lo), .val (.int v35), .val (.long len), .second, .val (.int (x2 &&& (3 : Int32))), .unset, .unset, .unset, .unset]) X34 hx (hb hby at_265) (pc' := 267) rfl rfl ?_
    obtain ⟨mm, hmm⟩ : ∃ z : Int32, z = (x2 &&& (3 : Int32)) := ⟨_, rfl⟩
    rw [← hmm]
    refine w_iload X34 hx (hb hby at_267) (pc' := 269) rfl rfl ?_
    have J304_38 : ∀ (v37 : Int64), v37 = (if mm = (0 : Int32) then (0 : Int64) else (if mm = (1 : Int32) then (len - (1 : Int64)) else ((x1.toInt64 &&& (4294967295 : Int64)) % len))) → Go p e below s room_1.cells room_1.slots (QL (some (.int 1)) n0) T34 (mkF m 304 #[.val (.int x0), .val (.int x1), .val (.int x2), .val (.ref b1), .val (.int ix), .val (.int lo), .val (.int v35), .val (.long len), .second, .val (.int mm), .val (.long v37), .second, .unset, .unset] []) := by
      intro v37 hv37
      refine w_iload X34 hx (hb hby at_304) (pc' := 306) rfl rfl ?_
      refine w_i2l X34 hx (hb hby at_306) (pc' := 307) rfl ?_
      refine w_lload X34 hx (hb hby at_307) (pc' := 309) rfl rfl ?_
      refine w_ladd X34 hx (hb hby at_309) (pc' := 310) rfl ?_
      refine w_l2i X34 hx (hb hby at_310) (pc' := 311) rfl ?_
      refine w_istore (Ls' := #[.val (.int x0), .val (.int x1), .val (.int x2), .val (.ref b1), .val (.int ix), .val (.int lo), .val (.int v35), .val (.long len), .second, .val (.int mm), .val (.long v37), .second, .val (.int (lo.toInt64 + v37).toInt32), .unset]) X34 hx (hb hby at_311) (pc' := 313) rfl rfl ?_
      obtain ⟨cc, hcc⟩ : ∃ z : Int32, z = (lo.toInt64 + v37).toInt32 := ⟨_, rfl⟩
      rw [← hcc]
      refine w_iload X34 hx (hb hby at_313) (pc' := 315) rfl rfl ?_
      refine w_iconst (v := 1) X34 hx (hb hby at_315) (pc' := 316) rfl rfl ?_
      refine w_iand X34 hx (hb hby at_316) (pc' := 317) rfl ?_
      refine w_iconst (v := 1) X34 hx (hb hby at_317) (pc' := 318) rfl rfl ?_
      have J326_40 : ∀ (v39 : Int32), v39 = (if (ix &&& (1 : Int32)) = (1 : Int32) then (1 : Int32) else (0 : Int32)) → Go p e below s room_1.cells room_1.slots (QL (some (.int 1)) n0) T34 (mkF m 326 #[.val (.int x0), .val (.int x1), .val (.int x2), .val (.ref b1), .val (.int ix), .val (.int lo), .val (.int v35), .val (.long len), .second, .val (.int mm), .val (.long v37), .second, .val (.int cc), .unset] [(.int v39)]) := by
        intro v39 hv39
        refine w_istore (Ls' := #[.val (.int x0), .val (.int x1), .val (.int x2), .val (.ref b1), .val (.int ix), .val (.int lo), .val (.int v35), .val (.long len), .second, .val (.int mm), .val (.long v37), .second, .val (.int cc), .val (.int v39)]) X34 hx (hb hby at_326) (pc' := 328) rfl rfl ?_
        refine w_iload X34 hx (hb hby at_328) (pc' := 330) rfl rfl ?_
        refine w_callS (argsL := [(.int cc)]) (rest := []) X34 hx hZ hown e34 (rm1 l Z a0 hw cc h34 n0) (hw _ (List.mem_of_getElem? (i := 11) rfl)) (hw _ (List.mem_of_getElem? (i := 12) rfl)) (hw _ (List.mem_of_getElem? (i := 13) rfl)) (hw _ (List.mem_of_getElem? (i := 14) rfl)) (by decide) (by decide) (W := 0) (by decide) (by decide) (by decide) (by rw [hml]; rfl) (lenOf pd_0 rfl) (Nat.le_refl _) rfl (hb hby at_330) (pc' := 333) rfl (fun T41 L41 v41 X41 hQ41 => ?_)
        obtain ⟨rfl, N41q, e41⟩ := hQ41
        have N41 := Fr.app N34 N41q
        have X41 : Stand p l e room_1 s m _ below meth c T41 _ 1 33 := X41
        show Go p e below s room_1.cells room_1.slots (QL (some (.int 1)) n0) T41 (mkF m 333 #[.val (.int x0), .val (.int x1), .val (.int x2), .val (.ref b1), .val (.int ix), .val (.int lo), .val (.int v35), .val (.long len), .second, .val (.int mm), .val (.long v37), .second, .val (.int cc), .val (.int v39)] [(.int (K1_0 cc))])
        refine w_iload X41 hx (hb hby at_333) (pc' := 335) rfl rfl ?_
        have hf335 : (K1_0 cc) = v39 := own_law hix hlo hv35 hlen hv37 hcc hv39
        refine w_icmp_ne X41 hx (hb hby at_335) (pf := 338) (pt := 342) rfl (by decide) (by decide) (fun hc => absurd hf335 hc) (fun hc335 => ?_)
        refine w_iconst (v := 1) X41 hx (hb hby at_338) (pc' := 339) rfl rfl ?_
        refine w_goto X41 hx (hb hby at_339) (pc' := 343) (by decide) (by decide) ?_
        exact w_retZ X41 hx hret hlk (hb hby at_343) (by decide) (by decide) ⟨rfl, N41⟩
      refine w_icmp_ne X34 hx (hb hby at_318) (pf := 321) (pt := 325) rfl (by decide) (by decide) (fun hc318 => ?_) (fun hc318 => ?_)
      · refine w_iconst (v := 0) X34 hx (hb hby at_325) (pc' := 326) rfl rfl ?_
        exact J326_40 ((0 : Int32)) (by rw [if_neg (show ¬ ((ix &&& (1 : Int32)) = (1 : Int32)) from (by assumption))])
      · refine w_iconst (v := 1) X34 hx (hb hby at_321) (pc' := 322) rfl rfl ?_
        refine w_goto X34 hx (hb hby at_322) (pc' := 326) (by decide) (by decide) ?_
        exact J326_40 ((1 : Int32)) (by rw [if_pos (show (ix &&& (1 : Int32)) = (1 : Int32) from (by assumption))])
    refine w_if_ne X34 hx (hb hby at_269) (pf := 272) (pt := 278) rfl (by decide) (by decide) (fun hc269 => ?_) (fun hc269 => ?_)
    · refine w_iload X34 hx (hb hby at_278) (pc' := 280) rfl rfl ?_
      refine w_iconst (v := 1) X34 hx (hb hby at_280) (pc' := 281) rfl rfl ?_
      refine w_icmp_ne X34 hx (hb hby at_281) (pf := 284) (pt := 293) rfl (by decide) (by decide) (fun hc281 => ?_) (fun hc281 => ?_)
      · refine w_iloadN X34 hx (hb hby at_293) (pc' := 294) rfl rfl ?_
        refine w_i2l X34 hx (hb hby at_294) (pc' := 295) rfl ?_
        refine w_ldc2 X34 hx hZ hown (hw _ (List.mem_of_getElem? (i := 10) rfl)) (hb hby at_295) (pc' := 298) rfl ?_
        refine w_land X34 hx (hb hby at_298) (pc' := 299) rfl ?_
        refine w_lload X34 hx (hb hby at_299) (pc' := 301) rfl rfl ?_
        refine w_lrem X34 hx (hb hby at_301) (pc' := 302) rfl (own_lne (own_ln hix hlo hv35 hlen).2.2.1) ?_
        refine w_lstore (Ls' := #[.val (.int x0), .val (.int x1), .val (.int x2), .val (.ref b1), .val (.int ix), .val (.int lo), .val (.int v35), .val (.long len), .second, .val (.int mm), .val (.long ((x1.toInt64 &&& (4294967295 : Int64)) % len)), .second, .unset, .unset]) X34 hx (hb hby at_302) (pc' := 304) rfl rfl ?_
        exact J304_38 (((x1.toInt64 &&& (4294967295 : Int64)) % len)) (by rw [if_neg (show ¬ (mm = (0 : Int32)) from (by assumption)), if_neg (show ¬ (mm = (1 : Int32)) from (by assumption))])
      · refine w_lload X34 hx (hb hby at_284) (pc' := 286) rfl rfl ?_
        refine w_lconst (v := 1) X34 hx (hb hby at_286) (pc' := 287) rfl rfl ?_
        refine w_lsub X34 hx (hb hby at_287) (pc' := 288) rfl ?_
        refine w_lstore (Ls' := #[.val (.int x0), .val (.int x1), .val (.int x2), .val (.ref b1), .val (.int ix), .val (.int lo), .val (.int v35), .val (.long len), .second, .val (.int mm), .val (.long (len - (1 : Int64))), .second, .unset, .unset]) X34 hx (hb hby at_288) (pc' := 290) rfl rfl ?_
        refine w_goto X34 hx (hb hby at_290) (pc' := 304) (by decide) (by decide) ?_
        exact J304_38 ((len - (1 : Int64))) (by rw [if_neg (show ¬ (mm = (0 : Int32)) from (by assumption)), if_pos (show mm = (1 : Int32) from (by assumption))])
    · refine w_lconst (v := 0) X34 hx (hb hby at_272) (pc' := 273) rfl rfl ?_
      refine w_lstore (Ls' := #[.val (.int x0), .val (.int x1), .val (.int x2), .val (.ref b1), .val (.int ix), .val (.int lo), .val (.int v35), .val (.long len), .second, .val (.int mm), .val (.long (0 : Int64)), .second, .unset, .unset]) X34 hx (hb hby at_273) (pc' := 275) rfl rfl ?_
      refine w_goto X34 hx (hb hby at_275) (pc' := 304) (by decide) (by decide) ?_
      exact J304_38 ((0 : Int64)) (by rw [if_pos (show mm = (0 : Int32) from (by assumption))])
  refine w_icmp_ne X34 hx (hb hby at_233) (pf := 236) (pt := 241) rfl (by decide) (by decide) (fun hc233 => ?_) (fun hc233 => ?_)
  · refine w_aloadN X34 hx (hb hby at_241) (pc' := 242) rfl rfl rfl ?_
    refine w_iload X34 hx (hb hby at_242) (pc' := 244) rfl rfl ?_
    refine w_iconst (v := 1) X34 hx (hb hby at_244) (pc' := 245) rfl rfl ?_
    refine w_iadd X34 hx (hb hby at_245) (pc' := 246) rfl ?_
    refine w_iaload X34 hx hZ e34 V34 (v := (own_tab.getD (ix + (1 : Int32)).toNatClampNeg 0)) (own_ix1 hix hc233).1 (own_getD (own_ix1 hix hc233).2.1) (hb hby at_246) (pc' := 247) rfl ?_
    refine w_iconst (v := 1) X34 hx (hb hby at_247) (pc' := 248) rfl rfl ?_
    refine w_isub X34 hx (hb hby at_248) (pc' := 249) rfl ?_
    exact J249_36 (((own_tab.getD (ix + (1 : Int32)).toNatClampNeg 0) - (1 : Int32))) (by rw [if_neg (show ¬ (ix = (32 : Int32)) from (by assumption))])
  · refine w_ldc X34 hx hZ hown (hw _ (List.mem_of_getElem? (i := 9) rfl)) (hb hby at_236) (pc' := 238) rfl ?_
    refine w_goto X34 hx (hb hby at_238) (pc' := 249) (by decide) (by decide) ?_
    exact J249_36 ((2147483647 : Int32)) (by rw [if_pos (show ix = (32 : Int32) from (by assumption))])
set_option maxRecDepth 65536 in
set_option maxHeartbeats 40000000 in
theorem comes_1 {Post : Tables → Env → Array Value → State → Outcome → State → Prop} (hpost : ∀ tb e args s v u, (limb_1_1.after args s (.returned v) u = true ∧ limb_1_2.after args s (.returned v) u = true ∧ True) → FrameEnd s (.returned v) u (Jvm.fieldLocs frame_1_writes args s ++ Jvm.arrayLocs frame_1_arrays args s ++ Jvm.staticLocs frame_1_statics s) 16 192 → Post tb e args s (.returned v) u) :
    ArmFor flags0 classFile x code maxLocals ret World_1 tables_1 room_1 Calls_1 rest_1 Pre_1 Post := by
  intro l hfl _ _ p e ha hc hk s m args below hf hA hF happ hP
  obtain ⟨hcalls, hrest, hpre⟩ := hP
  obtain ⟨-, -, -, hnamed, -, -, -, hat⟩ := (Spec.applies_iff hf).mp happ
  obtain ⟨hg, hn⟩ := and_e (Cond.before_iff.mp (show (Jvm.Cond.and given_1 narrow_1).before args s = true from hpre))
  obtain ⟨g1, g2⟩ := and_e hg
  obtain ⟨g3, g4⟩ := and_e g2
  obtain ⟨g5, g6⟩ := and_e g4
  obtain ⟨w0, w1, w2, rfl⟩ : ∃ w0 w1 w2 : Value, args = #[w0, w1, w2] := by
    have hs : args.size = 3 := by simpa [Cond.value, given_1] using g1
    obtain ⟨L⟩ := args
    match L, hs with
    | [w0, w1, w2], _ => exact ⟨w0, w1, w2, rfl⟩
  have hw := fun d (hd : d ∈ tables_1) => atoms_spec (ws := Jvm.Cond.code x code maxLocals ret :: tables_1) hat d (List.mem_cons_of_mem _ hd)
  obtain ⟨i0, ei0⟩ := is_v g3
  obtain rfl : w0 = (.int i0) := Option.some.inj ei0
  obtain ⟨i1, ei1⟩ := is_v g5
  obtain rfl : w1 = (.int i1) := Option.some.inj ei1
  obtain ⟨i2, ei2⟩ := is_v g6
  obtain rfl : w2 = (.int i2) := Option.some.inj ei2
  have C := rm0 l s _ hw i0 i1 i2 s.heap s.heap.size (Nat.le_refl _)
  obtain ⟨n, o, h1, h2, h3, v, L, rfl, ⟨rfl, N⟩, hq⟩ := C tables_1 p e ha hc hk s m _ below hf ((Spec.applies_iff_loose hf).mp happ).1 ⟨rfl, State.Warmed39.refl s, rfl⟩ trivial
  refine ⟨n, _, h1, h2, h3, hpost _ _ _ _ _ _ ⟨Cond.after_iff.mpr rfl, Cond.after_iff.mpr (eq_i res_at (Term.int_eval (1)) rfl), trivial⟩ ⟨hq.1, hq.2.1, (hq.2.2.sift fun y hy => Or.inr (N y hy)).mono (by decide) (by decide)⟩⟩
theorem main_1_1 : Claimed_1_1 := comes_1 fun _ _ _ _ _ _ h hF => ⟨h.1, hF⟩
theorem main_1_2 : Claimed_1_2 := comes_1 fun _ _ _ _ _ _ h hF => ⟨h.2.1, hF⟩
end Jvm.Pilot.@@N@@
namespace Jvm.Pilot.@@N@@
open Jvm Jvm.ClassFile Sem Op Lib Jvm.Free Jvm.Stand Jvm.Pilot.@@N@@.Jvm.D
/-! MADE BY PROGRAM (witnessworld.py) out of the Statement's table words and the real class files: 9 classes; the members and pool entries that the words name. The judged class is class 1, her method 1. -/
namespace start1
open Jvm.ClassFile
def u (s : String) : CpInfo := .utf8 (stringToUtf16 s)
/-- a pool by its gaps: so many unusable entries, then the entry; so many at the end -/
def gap : Nat → List CpInfo → List CpInfo
  | 0, r => r
  | n + 1, r => .unusable :: gap n r
def poolList (es : List (Nat × CpInfo)) (last : Nat) : List CpInfo := es.foldr (fun e r => gap e.1 (e.2 :: r)) (gap last [])
def pool (es : List (Nat × CpInfo)) (last : Nat) : Array CpInfo := ⟨poolList es last⟩
def fileOf (pool : Array CpInfo) (this : Nat) (attrs : Array Attribute := #[]) (ms : Array MethodInfo := #[]) (fl : Nat := 33) (sup : Nat := 0) (ifs : Array Nat := #[]) (fds : Array FieldInfo := #[]) : ClassFile where
  minorVersion := 0
  majorVersion := 65
  constantPool := pool
  accessFlags := fl
  thisClass := this
  superClass := sup
  interfaces := ifs
  fields := fds
  methods := ms
  attributes := attrs
def plain (name : String) (sup : Option ClassId) : Class where
  name := name
  kind := .ordinary
  loader := none
  accessFlags := 33
  super := sup
  interfaces := #[]
  cf := none
  fields := #[]
  methods := #[]
  instanceTypes := #[]
  staticTypes := #[]
  resolved := #[]
  callSites := []
  init := .initialized
  statics := none
  mirror := none

def pool0 : Array CpInfo := pool [(5, u "<init>"), (0, u "()V"), (1, .class_ 10), (1, u "java/lang/Object")] 113

def k0m0 : Method := { name := "<init>", desc := "()V", sig := { parameters := [], returnType := none }, accessFlags := 1, code := none }
/-- java/lang/Object -/
def k0 : Class := { plain "java/lang/Object" none with
  accessFlags := 33
  interfaces := #[]
  cf := some (fileOf pool0 8 #[] #[{ accessFlags := 1, nameIndex := 5, descriptorIndex := 6, attributes := #[] }] 33 0 #[] #[])
  fields := #[]
  methods := #[k0m0]
  instanceTypes := #[]
  staticTypes := #[]
  resolved := Array.replicate 124 none
  statics := none }

def pool1 : Array CpInfo := pool [(2, .class_ 4), (1, u "java/lang/Object"), (0, u "<init>"), (0, u "()V"), (2, .integer 2147483648), (0, .integer 55296), (0, .integer 63744), (0, .integer 64976), (0, .integer 65008), (0, .integer 65534), (0, .integer 65536), (0, .integer 983040), (0, .integer 2147483647), (0, .long 4294967295), (1, .methodref 21 22), (0, .class_ 23), (0, .nameAndType 24 25), (0, u "com/example/corelint/corelint/XmlChars"), (0, u "isNameStart"), (0, u "(I)Z"), (0, .class_ 27), (0, u "com/example/corelint/corelint/XmlCharsIsNameStartPinLaw"), (2, u "law"), (0, u "(III)Z")] 5

def k1m0 : Method := { name := "<init>", desc := "()V", sig := { parameters := [], returnType := none }, accessFlags := 1, code := none }
def k1c1 : Code := { maxStack := 4, maxLocals := 14, code := code, exceptionTable := #[], attributes := #[] }
def k1m1 : Method := { name := "law", desc := "(III)Z", sig := { parameters := [.int, .int, .int], returnType := some .boolean }, accessFlags := 9, code := some k1c1 }
/-- com/example/corelint/corelint/XmlCharsIsNameStartPinLaw -/
def k1 : Class := { plain "com/example/corelint/corelint/XmlCharsIsNameStartPinLaw" (some 0) with
  accessFlags := 49
  interfaces := #[]
  cf := some (fileOf pool1 26 #[] #[{ accessFlags := 1, nameIndex := 5, descriptorIndex := 6, attributes := #[] }, { accessFlags := 9, nameIndex := 30, descriptorIndex := 31, attributes := #[] }] 49 2 #[] #[])
  fields := #[]
  methods := #[k1m0, k1m1]
  instanceTypes := #[]
  staticTypes := #[]
  resolved := Array.replicate 37 none
  statics := none }

def pool2 : Array CpInfo := pool [(2, .class_ 4), (1, u "java/lang/Object"), (0, u "<init>"), (0, u "()V"), (0, .integer 55295), (1, .integer 65533), (0, .integer 65536), (0, .class_ 12), (0, u "com/example/corelint/corelint/XmlChars"), (1, .integer 63744), (0, .integer 64975), (0, .integer 65008), (0, .integer 983039), (2, u "isNameStart"), (0, u "(I)Z"), (0, u "LAST_CODE_POINT"), (0, u "I")] 10

def k2m0 : Method := { name := "<init>", desc := "()V", sig := { parameters := [], returnType := none }, accessFlags := 2, code := none }
def k2c1 : Code := { maxStack := 2, maxLocals := 2, code := prog_51_method_4_code, exceptionTable := #[], attributes := #[] }
def k2m1 : Method := { name := "isNameStart", desc := "(I)Z", sig := { parameters := [.int], returnType := some .boolean }, accessFlags := 8, code := some k2c1 }
/-- com/example/corelint/corelint/XmlChars -/
def k2 : Class := { plain "com/example/corelint/corelint/XmlChars" (some 0) with
  accessFlags := 48
  interfaces := #[]
  cf := some (fileOf pool2 11 #[] #[{ accessFlags := 2, nameIndex := 5, descriptorIndex := 6, attributes := #[] }, { accessFlags := 8, nameIndex := 20, descriptorIndex := 21, attributes := #[] }] 48 2 #[] #[{ accessFlags := 26, nameIndex := 22, descriptorIndex := 23, attributes := #[] }])
  fields := #[{ name := "LAST_CODE_POINT", type := .int, accessFlags := 26, slot := 0, constantValue := 0 }]
  methods := #[k2m0, k2m1]
  instanceTypes := #[]
  staticTypes := #[.int]
  resolved := Array.replicate 34 none
  statics := none }

def pool3 : Array CpInfo := pool [(1, u "java/lang/Cloneable"), (0, .class_ 1), (0, u "java/lang/Object"), (0, .class_ 3)] 3

/-- java/lang/Cloneable -/
def k3 : Class := { plain "java/lang/Cloneable" (some 0) with
  accessFlags := 1537
  interfaces := #[]
  cf := some (fileOf pool3 2 #[] #[] 1537 4 #[] #[])
  fields := #[]
  methods := #[]
  instanceTypes := #[]
  staticTypes := #[]
  resolved := Array.replicate 8 none
  statics := none }

def pool4 : Array CpInfo := pool [(1, u "java/io/Serializable"), (0, .class_ 1), (0, u "java/lang/Object"), (0, .class_ 3)] 3

/-- java/io/Serializable -/
def k4 : Class := { plain "java/io/Serializable" (some 0) with
  accessFlags := 1537
  interfaces := #[]
  cf := some (fileOf pool4 2 #[] #[] 1537 4 #[] #[])
  fields := #[]
  methods := #[]
  instanceTypes := #[]
  staticTypes := #[]
  resolved := Array.replicate 8 none
  statics := none }

/-- the primitive byte -/
def k5 : Class := { plain "byte" none with kind := .primitive 'B', accessFlags := 0x411 }
/-- [B -/
def k6 : Class := { plain "[B" (some 0) with kind := .array 5 .byte, interfaces := #[3, 4], accessFlags := 1041 }

/-- the primitive int -/
def k7 : Class := { plain "int" none with kind := .primitive 'I', accessFlags := 0x411 }
/-- [I -/
def k8 : Class := { plain "[I" (some 0) with kind := .array 7 .int, interfaces := #[3, 4], accessFlags := 1041 }

def heap : Heap := #[]
def classes : Array Class := #[k0, k1, k2, k3, k4, k5, k6, k7, k8]
def interned : List (Array UInt16 × Addr) := []
def slotsUsed : Nat := 0
def theMethod : MethodId := ⟨1, 1⟩
def args0 : Array Value := #[.int 3, .int 4, .int 5]
def aboutOver (below : List Frame) : State where
  vm := { classes := classes, interned := interned.toArray }
  heap := heap
  slotsUsed := slotsUsed
  threads := #[{ frames := .invoking theMethod args0 :: below }]
def below0 : List Frame := [.native { method := ⟨0, 0⟩, args := #[] }]
def about1 : State := aboutOver below0
def p0 : Program := .bare "" "" ""
def e0 : Env := launch0.env 0 0 0
theorem w_frames : about1.frames = Frame.invoking theMethod args0 :: below0 := rfl
set_option maxRecDepth 65536 in
theorem w_args : argsFit about1.vm theMethod args0 = true := by decide +kernel
set_option maxRecDepth 65536 in
theorem w_heap : heapFits about1 = true := by decide +kernel
set_option maxRecDepth 65536 in
theorem w_runnable : about1.curStatus? = some .runnable := by decide +kernel
set_option maxRecDepth 65536 in
theorem w_alone : about1.alone = true := by decide +kernel
set_option maxRecDepth 65536 in
theorem w_named : about1.methodNamed? x = some theMethod := by decide +kernel
set_option maxRecDepth 65536 in
theorem w_hears : about1.hears theMethod below0 = true := by decide +kernel
set_option maxRecDepth 65536 in
theorem w_ripe : about1.ripe theMethod args0 below0 = true := by decide +kernel
theorem w_running : about1.status = .running := rfl
set_option maxRecDepth 65536 in
theorem w_room : about1.hasRoom e0.platform room_1 = true :=
  launch0.hasRoom_least _ room_1 (by decide +kernel) (by decide +kernel) (by decide +kernel) (by decide +kernel) (by decide +kernel) (by decide +kernel)
theorem allAtoms_all (ts : List Jvm.Cond) (a : Array Jvm.Value) (st : Jvm.State) : (allAtoms ts).before a st = ts.all (fun c => c.before a st) := by
  induction ts with
  | nil => rfl
  | cons c t ih =>
    show (Jvm.Cond.and c (allAtoms t)).before a st = _
    rw [Jvm.Cond.before_and, ih, List.all_cons]
def words1 : List Jvm.Cond := Jvm.Cond.code x code maxLocals ret :: tables_1
/-- a 'code' word, met by the world's own term for the bytes: nothing is compared byte by byte -/
theorem code_word {y : MethodName} {bytes : ByteArray} {mx : Nat} {rt : Option FieldType} {a : Array Value} {s : State} {m : MethodId} {meth : Method} {c : Code} (h1 : s.methodNamed? y = some m) (h2 : s.vm.method? m = some meth) (h3 : meth.code = some c) (h4 : c.code = bytes)
    (h5 : (c.maxLocals == mx && c.exceptionTable.isEmpty && decide (c.maxStack ≤ mostOperands) && decide (meth.sig.returnType = rt) && !meth.locks && decide (parseMethodDescriptor y.desc = some meth.sig)) = true) : (Jvm.Cond.code y bytes mx rt).before a s = true := by
  simp only [Bool.and_eq_true, beq_iff_eq, Bool.not_eq_true', decide_eq_true_eq] at h5
  obtain ⟨⟨⟨⟨⟨g1, g2⟩, g3⟩, g4⟩, g5⟩, g6⟩ := h5
  simp [Cond.before, Cond.holds, Cond.value, h1, h2, h3, h4, g1, g2, g3, g4, g5, g6]
def isCode : Jvm.Cond → Bool
  | .code _ _ _ _ => true
  | _ => false
theorem all_split {L : List Jvm.Cond} {P : Jvm.Cond → Bool} (h1 : L.all (fun c => isCode c || P c) = true) (h2 : ∀ c ∈ L.filter isCode, P c = true) : L.all P = true := by
  refine List.all_eq_true.mpr fun c hc => ?_
  have h := List.all_eq_true.mp h1 c hc
  rcases Bool.eq_false_or_eq_true (isCode c) with hi | hi
  · exact h2 c (List.mem_filter.mpr ⟨hc, hi⟩)
  · simpa [hi] using h
set_option maxRecDepth 65536 in
theorem w_c0 : (Jvm.Cond.code x code maxLocals ret).before args0 about1 = true := code_word (m := ⟨1, 1⟩) (meth := k1m1) (c := k1c1) (by decide +kernel) rfl rfl rfl (by decide +kernel)
set_option maxRecDepth 65536 in
theorem w_c1 : (Jvm.Cond.code ({ cls := "com/example/corelint/corelint/XmlChars", name := "isNameStart", desc := "(I)Z" } : Jvm.MethodName) prog_51_method_4_code (2 : Nat) (Option.some Jvm.ClassFile.FieldType.boolean)).before args0 about1 = true := code_word (m := ⟨2, 1⟩) (meth := k2m1) (c := k2c1) (by decide +kernel) rfl rfl rfl (by decide +kernel)
def codes1 : List Jvm.Cond := [Jvm.Cond.code x code maxLocals ret, Jvm.Cond.code ({ cls := "com/example/corelint/corelint/XmlChars", name := "isNameStart", desc := "(I)Z" } : Jvm.MethodName) prog_51_method_4_code (2 : Nat) (Option.some Jvm.ClassFile.FieldType.boolean)]
set_option maxRecDepth 65536 in
theorem codes_eq : words1.filter isCode = codes1 := rfl
theorem w_codes : ∀ c ∈ words1.filter isCode, c.before args0 about1 = true := by
  rw [codes_eq]
  intro c hc
  simp only [codes1, List.mem_cons, List.not_mem_nil, or_false] at hc
  rcases hc with rfl | rfl
  · exact w_c0
  · exact w_c1
set_option maxRecDepth 65536 in
theorem w_t1 : words1.all (fun c => isCode c || c.before args0 about1) = true := by decide +kernel
theorem w_tables : (allAtoms (Jvm.Cond.code x code maxLocals ret :: tables_1)).before args0 about1 = true := by
  rw [allAtoms_all]
  show words1.all (fun c => c.before args0 about1) = true
  refine all_split ?_ w_codes
  rw [w_t1]
set_option maxRecDepth 65536 in
theorem w_case : (Jvm.Cond.and given_1 narrow_1).before args0 about1 = true := by decide +kernel
theorem w_applies : (headSpec (Jvm.Cond.code x code maxLocals ret :: tables_1) room_1).applies x e0.platform about1 = true :=
  (Spec.applies_iff w_frames).mpr ⟨w_running, w_runnable, w_alone, w_named, w_hears, w_ripe, w_room, w_tables⟩
theorem atStart : AtStart classFile x code maxLocals ret World_1 tables_1 room_1 Calls_1 rest_1 Pre_1 launch0 p0 e0 about1 theMethod args0 below0 :=
  ⟨lists_1, trivial, launch0.admits_env _ _ _, launch0.least_env, fairChoices_fair.cas, fairChoices_fair.clock, w_frames, w_args, w_heap, w_applies, trivial, trivial, w_case⟩
end start1
theorem witness_1 : WitnessClaimed_1 := ⟨start1.p0, start1.e0, start1.about1, start1.theMethod, start1.args0, start1.below0, start1.atStart⟩
end Jvm.Pilot.@@N@@
