import JvmDerived
import JvmDerived.Pilot.@@N@@Statement
import JvmDerived.Pilot.@@N@@Code
set_option linter.unusedVariables false
set_option linter.unusedSimpArgs false
@@BLOCK:NumsL.lean.txt@@
namespace Jvm.Pilot.@@N@@
open Jvm Jvm.ClassFile Sem Op Lib Jvm.Free Jvm.Stand Jvm.LawKit Jvm.RoadKit Bundle Jvm.Pilot.@@N@@.Jvm.D
section OwnKit
variable {p : Program} {l : Launch} {e : Env} {R : Room} {s : State} {m : MethodId} {args : Array Value} {below : List Frame} {meth : Method} {c : Code} {T T' : State} {locs : List Loc} {cells slots : Nat} {Z : State} {a0 : Array Value} {h h' : Heap} {cm sm : Nat} {Q : Option Value → Heap → List Loc → Prop} {pc pc' : Nat} {Ls Ls' : Array Slot} {St : List Value}
/-- the walk's goal: from this frame the method comes to its end, and Q holds of what it leaves -/
def Go (p : Program) (e : Env) (below : List Frame) (s : State) (cm sm : Nat) (Q : Option Value → Heap → List Loc → Prop) (T : State) (g : JFrame) : Prop :=
  ∃ s₂ o, Steps p.tables e below (T.setTop g) s₂ ∧ s₂.status = .running ∧ Ended s₂ below o ∧ ∃ v L, o = .returned v ∧ Q v s₂.heap L ∧ FrameEnd s o s₂ L cm sm
theorem Go.st {g g' : JFrame} (q : ∀ t, Steps p.tables e below (T'.setTop g') t → Steps p.tables e below (T.setTop g) t) (k : Go p e below s cm sm Q T' g') : Go p e below s cm sm Q T g := by
  obtain ⟨s₂, o, st, r⟩ := k
  exact ⟨s₂, o, q _ st, r⟩
theorem Go.weak {g : JFrame} {Q' : Option Value → Heap → List Loc → Prop} (k : Go p e below s cm sm Q T g) (q : ∀ v h L, Q v h L → Q' v h L) : Go p e below s cm sm Q' T g := by
  obtain ⟨s₂, o, st, r1, r2, v, L, r3, r4, r5⟩ := k
  exact ⟨s₂, o, st, r1, r2, v, L, r3, q _ _ _ r4, r5⟩
/-- a contract -/
def Con (l : Launch) (Z : State) (y : MethodName) (bytes : ByteArray) (maxL : Nat) (ret : Option FieldType) (rm : Room) (as' : Array Value) (h : Heap) (Q : Option Value → Heap → List Loc → Prop) : Prop :=
  ∀ ws : List Jvm.Cond, MetFree l y (head1 (Jvm.Cond.code y bytes maxL ret :: ws) rm) (fun a U => a = as' ∧ Z.Warmed39 U.vm ∧ U.heap = h) (fun _ _ _ _ _ => True) (fun _ U o U' => ∃ v L, o = .returned v ∧ Q v U'.heap L ∧ FrameEnd U o U' L rm.cells rm.slots)
theorem Con.of {y : MethodName} {bytes : ByteArray} {maxL : Nat} {ret : Option FieldType} {rm : Room} {as' : Array Value} (hpl : plainFor y = true)
    (body : ∀ (p : Program) (e : Env) (s : State) (m : MethodId) (below : List Frame) (meth : Method) (c : Code) (T : State), Stand p l e rm s m as' below meth c T [] 0 0 → p.tables.exec = Jvm.exec → Z.Warmed39 s.vm → c.code = bytes → c.maxLocals = maxL → s.vm.findClass y.cls = some m.cls → meth.name = y.name → meth.sig.returnType = ret → meth.locks = false → T.heap = h → Go p e below s rm.cells rm.slots Q T (entryFrame m as' maxL)) :
    Con l Z y bytes maxL ret rm as' h Q := by
  intro ws
  refine MetFree.of_bodySF hpl hisR ?_
  intro p e s m args below meth c s₁ Bd hml0 hP hK
  obtain ⟨rfl, hZ, hh⟩ := hP
  exact body p e s m below meth c s₁ (Stand.of_body Bd) Bd.exec hZ Bd.bytes hml0 (findClass_of_methodNamed Bd.named) (name_of_methodNamed Bd.named Bd.method).1 Bd.returns Bd.notSynchronized (by rw [← hh, Bd.state]; rfl)
theorem Con.weak {y : MethodName} {bytes : ByteArray} {maxL : Nat} {ret : Option FieldType} {rm : Room} {as' : Array Value} {Q' : Option Value → Heap → List Loc → Prop} (C : Con l Z y bytes maxL ret rm as' h Q) (q : ∀ v h L, Q v h L → Q' v h L) : Con l Z y bytes maxL ret rm as' h Q' := by
  intro ws p e ha hc hk s m args below hf happ hP hK
  obtain ⟨n, o, h1, h2, h3, v, L, r3, r4, r5⟩ := C ws p e ha hc hk s m args below hf happ hP hK
  exact ⟨n, o, h1, h2, h3, v, L, r3, q _ _ _ r4, r5⟩
/-- what a body that writes nothing leaves -/
abbrev QP (v0 : Option Value) (h0 : Heap) (n0 : Nat) : Option Value → Heap → List Loc → Prop := fun v h L => v = v0 ∧ Fr n0 L ∧ h = h0
/-- what a law leaves -/
abbrev QL (v0 : Option Value) (n0 : Nat) : Option Value → Heap → List Loc → Prop := fun v _ L => v = v0 ∧ Fr n0 L
/-- iushr, lushr -/
def jushr (x y : Int32) : Int32 := (x.toUInt32 >>> (y &&& 31).toUInt32).toInt32
def jlushr (x : Int64) (y : Int32) : Int64 := (x.toUInt64 >>> (y &&& 0x3f).toInt64.toUInt64).toInt64
theorem w_iloadN (X : Stand p l e R s m args below meth c T locs cells slots) (hx : p.tables.exec = Jvm.exec) {k : Fin 4} {v : Int32} (hd : decode c.code pc = .ok (.iload_n k, 1)) (hp : pc + 1 = pc') (hl : Ls[k.val]? = some (.val (.int v)))
    (kk : Go p e below s cm sm Q T (mkF m pc' Ls (.int v :: St))) : Go p e below s cm sm Q T (mkF m pc Ls (St)) := by
  subst hp
  exact Go.st (fun t q => XS.iloadN (g := mkF m pc Ls (St)) X.here hx rfl hd hl q) kk
theorem w_iload (X : Stand p l e R s m args below meth c T locs cells slots) (hx : p.tables.exec = Jvm.exec) {k : Nat} {v : Int32} (hd : decode c.code pc = .ok (.iload k, 2)) (hp : pc + 2 = pc') (hl : Ls[k]? = some (.val (.int v)))
    (kk : Go p e below s cm sm Q T (mkF m pc' Ls (.int v :: St))) : Go p e below s cm sm Q T (mkF m pc Ls (St)) := by
  subst hp
  exact Go.st (fun t q => XS.iload (g := mkF m pc Ls (St)) X.here hx rfl hd hl q) kk
theorem w_istoreN (X : Stand p l e R s m args below meth c T locs cells slots) (hx : p.tables.exec = Jvm.exec) {k : Fin 4} {x : Int32} (hd : decode c.code pc = .ok (.istore_n k, 1)) (hp : pc + 1 = pc') (hl : storeLocals Ls k.val (.int x) = some Ls')
    (kk : Go p e below s cm sm Q T (mkF m pc' Ls' (St))) : Go p e below s cm sm Q T (mkF m pc Ls (.int x :: St)) := by
  subst hp
  exact Go.st (fun t q => XS.istoreN (g := mkF m pc Ls (.int x :: St)) X.here hx rfl hd rfl hl q) kk
theorem w_istore (X : Stand p l e R s m args below meth c T locs cells slots) (hx : p.tables.exec = Jvm.exec) {k : Nat} {x : Int32} (hd : decode c.code pc = .ok (.istore k, 2)) (hp : pc + 2 = pc') (hl : storeLocals Ls k (.int x) = some Ls')
    (kk : Go p e below s cm sm Q T (mkF m pc' Ls' (St))) : Go p e below s cm sm Q T (mkF m pc Ls (.int x :: St)) := by
  subst hp
  exact Go.st (fun t q => XS.istore (g := mkF m pc Ls (.int x :: St)) X.here hx rfl hd rfl hl q) kk
theorem w_lloadN (X : Stand p l e R s m args below meth c T locs cells slots) (hx : p.tables.exec = Jvm.exec) {k : Fin 4} {v : Int64} (hd : decode c.code pc = .ok (.lload_n k, 1)) (hp : pc + 1 = pc') (hl : Ls[k.val]? = some (.val (.long v)))
    (kk : Go p e below s cm sm Q T (mkF m pc' Ls (.long v :: St))) : Go p e below s cm sm Q T (mkF m pc Ls (St)) := by
  subst hp
  exact Go.st (fun t q => XS.lloadN (g := mkF m pc Ls (St)) X.here hx rfl hd hl q) kk
theorem w_lload (X : Stand p l e R s m args below meth c T locs cells slots) (hx : p.tables.exec = Jvm.exec) {k : Nat} {v : Int64} (hd : decode c.code pc = .ok (.lload k, 2)) (hp : pc + 2 = pc') (hl : Ls[k]? = some (.val (.long v)))
    (kk : Go p e below s cm sm Q T (mkF m pc' Ls (.long v :: St))) : Go p e below s cm sm Q T (mkF m pc Ls (St)) := by
  subst hp
  exact Go.st (fun t q => XS.lload (g := mkF m pc Ls (St)) X.here hx rfl hd hl q) kk
theorem w_lstoreN (X : Stand p l e R s m args below meth c T locs cells slots) (hx : p.tables.exec = Jvm.exec) {k : Fin 4} {x : Int64} (hd : decode c.code pc = .ok (.lstore_n k, 1)) (hp : pc + 1 = pc') (hl : storeLocals Ls k.val (.long x) = some Ls')
    (kk : Go p e below s cm sm Q T (mkF m pc' Ls' (St))) : Go p e below s cm sm Q T (mkF m pc Ls (.long x :: St)) := by
  subst hp
  exact Go.st (fun t q => XS.lstoreN (g := mkF m pc Ls (.long x :: St)) X.here hx rfl hd rfl hl q) kk
theorem w_lstore (X : Stand p l e R s m args below meth c T locs cells slots) (hx : p.tables.exec = Jvm.exec) {k : Nat} {x : Int64} (hd : decode c.code pc = .ok (.lstore k, 2)) (hp : pc + 2 = pc') (hl : storeLocals Ls k (.long x) = some Ls')
    (kk : Go p e below s cm sm Q T (mkF m pc' Ls' (St))) : Go p e below s cm sm Q T (mkF m pc Ls (.long x :: St)) := by
  subst hp
  exact Go.st (fun t q => XS.lstore (g := mkF m pc Ls (.long x :: St)) X.here hx rfl hd rfl hl q) kk
theorem w_aloadN (X : Stand p l e R s m args below meth c T locs cells slots) (hx : p.tables.exec = Jvm.exec) {k : Fin 4} {v : Value} (hd : decode c.code pc = .ok (.aload_n k, 1)) (hp : pc + 1 = pc') (hl : Ls[k.val]? = some (.val v)) (hv : v.isRef = true)
    (kk : Go p e below s cm sm Q T (mkF m pc' Ls (v :: St))) : Go p e below s cm sm Q T (mkF m pc Ls (St)) := by
  subst hp
  exact Go.st (fun t q => XS.aloadN (g := mkF m pc Ls (St)) X.here hx rfl hd hl hv q) kk
theorem w_aload (X : Stand p l e R s m args below meth c T locs cells slots) (hx : p.tables.exec = Jvm.exec) {k : Nat} {v : Value} (hd : decode c.code pc = .ok (.aload k, 2)) (hp : pc + 2 = pc') (hl : Ls[k]? = some (.val v)) (hv : v.isRef = true)
    (kk : Go p e below s cm sm Q T (mkF m pc' Ls (v :: St))) : Go p e below s cm sm Q T (mkF m pc Ls (St)) := by
  subst hp
  exact Go.st (fun t q => XS.aload (g := mkF m pc Ls (St)) X.here hx rfl hd hl hv q) kk
theorem w_astoreN (X : Stand p l e R s m args below meth c T locs cells slots) (hx : p.tables.exec = Jvm.exec) {k : Fin 4} {x : Value} (hd : decode c.code pc = .ok (.astore_n k, 1)) (hp : pc + 1 = pc') (hv : x.isRef = true) (hl : storeLocals Ls k.val x = some Ls')
    (kk : Go p e below s cm sm Q T (mkF m pc' Ls' (St))) : Go p e below s cm sm Q T (mkF m pc Ls (x :: St)) := by
  subst hp
  exact Go.st (fun t q => XS.astoreN (g := mkF m pc Ls (x :: St)) X.here hx rfl hd rfl hv hl q) kk
theorem w_astore (X : Stand p l e R s m args below meth c T locs cells slots) (hx : p.tables.exec = Jvm.exec) {k : Nat} {x : Value} (hd : decode c.code pc = .ok (.astore k, 2)) (hp : pc + 2 = pc') (hv : x.isRef = true) (hl : storeLocals Ls k x = some Ls')
    (kk : Go p e below s cm sm Q T (mkF m pc' Ls' (St))) : Go p e below s cm sm Q T (mkF m pc Ls (x :: St)) := by
  subst hp
  exact Go.st (fun t q => XS.astore (g := mkF m pc Ls (x :: St)) X.here hx rfl hd rfl hv hl q) kk
theorem w_iconst (X : Stand p l e R s m args below meth c T locs cells slots) (hx : p.tables.exec = Jvm.exec) {i : Int} {v : Int32} (hd : decode c.code pc = .ok (.iconst i, 1)) (hp : pc + 1 = pc') (hv : Int32.ofInt i = v)
    (kk : Go p e below s cm sm Q T (mkF m pc' Ls (.int v :: St))) : Go p e below s cm sm Q T (mkF m pc Ls St) := by
  subst hp hv
  exact Go.st (fun t q => XS.iconst (g := mkF m pc Ls St) X.here hx rfl hd q) kk
theorem w_bipush (X : Stand p l e R s m args below meth c T locs cells slots) (hx : p.tables.exec = Jvm.exec) {i : Int} {v : Int32} (hd : decode c.code pc = .ok (.bipush i, 2)) (hp : pc + 2 = pc') (hv : (Int8.ofInt i).toInt32 = v)
    (kk : Go p e below s cm sm Q T (mkF m pc' Ls (.int v :: St))) : Go p e below s cm sm Q T (mkF m pc Ls St) := by
  subst hp hv
  exact Go.st (fun t q => XS.bipush (g := mkF m pc Ls St) X.here hx rfl hd q) kk
theorem w_sipush (X : Stand p l e R s m args below meth c T locs cells slots) (hx : p.tables.exec = Jvm.exec) {i : Int} {v : Int32} (hd : decode c.code pc = .ok (.sipush i, 3)) (hp : pc + 3 = pc') (hv : (Int16.ofInt i).toInt32 = v)
    (kk : Go p e below s cm sm Q T (mkF m pc' Ls (.int v :: St))) : Go p e below s cm sm Q T (mkF m pc Ls St) := by
  subst hp hv
  exact Go.st (fun t q => XS.sipush (g := mkF m pc Ls St) X.here hx rfl hd q) kk
theorem w_lconst (X : Stand p l e R s m args below meth c T locs cells slots) (hx : p.tables.exec = Jvm.exec) {i : Fin 2} {v : Int64} (hd : decode c.code pc = .ok (.lconst i, 1)) (hp : pc + 1 = pc') (hv : Int64.ofNat i = v)
    (kk : Go p e below s cm sm Q T (mkF m pc' Ls (.long v :: St))) : Go p e below s cm sm Q T (mkF m pc Ls St) := by
  subst hp hv
  exact Go.st (fun t q => XS.lconst (g := mkF m pc Ls St) X.here hx rfl hd q) kk
theorem w_aconstNull (X : Stand p l e R s m args below meth c T locs cells slots) (hx : p.tables.exec = Jvm.exec)  (hd : decode c.code pc = .ok (.aconst_null, 1)) (hp : pc + 1 = pc')
    (kk : Go p e below s cm sm Q T (mkF m pc' Ls (.null :: St))) : Go p e below s cm sm Q T (mkF m pc Ls (St)) := by
  subst hp
  exact Go.st (fun t q => XS.aconstNull (g := mkF m pc Ls (St)) X.here hx rfl hd q) kk
theorem w_iadd (X : Stand p l e R s m args below meth c T locs cells slots) (hx : p.tables.exec = Jvm.exec) {x y : Int32} (hd : decode c.code pc = .ok (.iadd, 1)) (hp : pc + 1 = pc')
    (kk : Go p e below s cm sm Q T (mkF m pc' Ls (.int (x + y) :: St))) : Go p e below s cm sm Q T (mkF m pc Ls (.int y :: .int x :: St)) := by
  subst hp
  exact Go.st (fun t q => XS.iadd (g := mkF m pc Ls (.int y :: .int x :: St)) X.here hx rfl hd rfl q) kk
theorem w_ladd (X : Stand p l e R s m args below meth c T locs cells slots) (hx : p.tables.exec = Jvm.exec) {x y : Int64} (hd : decode c.code pc = .ok (.ladd, 1)) (hp : pc + 1 = pc')
    (kk : Go p e below s cm sm Q T (mkF m pc' Ls (.long (x + y) :: St))) : Go p e below s cm sm Q T (mkF m pc Ls (.long y :: .long x :: St)) := by
  subst hp
  exact Go.st (fun t q => XS.ladd (g := mkF m pc Ls (.long y :: .long x :: St)) X.here hx rfl hd rfl q) kk
theorem w_isub (X : Stand p l e R s m args below meth c T locs cells slots) (hx : p.tables.exec = Jvm.exec) {x y : Int32} (hd : decode c.code pc = .ok (.isub, 1)) (hp : pc + 1 = pc')
    (kk : Go p e below s cm sm Q T (mkF m pc' Ls (.int (x - y) :: St))) : Go p e below s cm sm Q T (mkF m pc Ls (.int y :: .int x :: St)) := by
  subst hp
  exact Go.st (fun t q => XS.isub (g := mkF m pc Ls (.int y :: .int x :: St)) X.here hx rfl hd rfl q) kk
theorem w_lsub (X : Stand p l e R s m args below meth c T locs cells slots) (hx : p.tables.exec = Jvm.exec) {x y : Int64} (hd : decode c.code pc = .ok (.lsub, 1)) (hp : pc + 1 = pc')
    (kk : Go p e below s cm sm Q T (mkF m pc' Ls (.long (x - y) :: St))) : Go p e below s cm sm Q T (mkF m pc Ls (.long y :: .long x :: St)) := by
  subst hp
  exact Go.st (fun t q => XS.lsub (g := mkF m pc Ls (.long y :: .long x :: St)) X.here hx rfl hd rfl q) kk
theorem w_imul (X : Stand p l e R s m args below meth c T locs cells slots) (hx : p.tables.exec = Jvm.exec) {x y : Int32} (hd : decode c.code pc = .ok (.imul, 1)) (hp : pc + 1 = pc')
    (kk : Go p e below s cm sm Q T (mkF m pc' Ls (.int (x * y) :: St))) : Go p e below s cm sm Q T (mkF m pc Ls (.int y :: .int x :: St)) := by
  subst hp
  exact Go.st (fun t q => XS.imul (g := mkF m pc Ls (.int y :: .int x :: St)) X.here hx rfl hd rfl q) kk
theorem w_lmul (X : Stand p l e R s m args below meth c T locs cells slots) (hx : p.tables.exec = Jvm.exec) {x y : Int64} (hd : decode c.code pc = .ok (.lmul, 1)) (hp : pc + 1 = pc')
    (kk : Go p e below s cm sm Q T (mkF m pc' Ls (.long (x * y) :: St))) : Go p e below s cm sm Q T (mkF m pc Ls (.long y :: .long x :: St)) := by
  subst hp
  exact Go.st (fun t q => XS.lmul (g := mkF m pc Ls (.long y :: .long x :: St)) X.here hx rfl hd rfl q) kk
theorem w_iand (X : Stand p l e R s m args below meth c T locs cells slots) (hx : p.tables.exec = Jvm.exec) {x y : Int32} (hd : decode c.code pc = .ok (.iand, 1)) (hp : pc + 1 = pc')
    (kk : Go p e below s cm sm Q T (mkF m pc' Ls (.int (x &&& y) :: St))) : Go p e below s cm sm Q T (mkF m pc Ls (.int y :: .int x :: St)) := by
  subst hp
  exact Go.st (fun t q => XS.iand (g := mkF m pc Ls (.int y :: .int x :: St)) X.here hx rfl hd rfl q) kk
theorem w_land (X : Stand p l e R s m args below meth c T locs cells slots) (hx : p.tables.exec = Jvm.exec) {x y : Int64} (hd : decode c.code pc = .ok (.land, 1)) (hp : pc + 1 = pc')
    (kk : Go p e below s cm sm Q T (mkF m pc' Ls (.long (x &&& y) :: St))) : Go p e below s cm sm Q T (mkF m pc Ls (.long y :: .long x :: St)) := by
  subst hp
  exact Go.st (fun t q => XS.land (g := mkF m pc Ls (.long y :: .long x :: St)) X.here hx rfl hd rfl q) kk
theorem w_ior (X : Stand p l e R s m args below meth c T locs cells slots) (hx : p.tables.exec = Jvm.exec) {x y : Int32} (hd : decode c.code pc = .ok (.ior, 1)) (hp : pc + 1 = pc')
    (kk : Go p e below s cm sm Q T (mkF m pc' Ls (.int (x ||| y) :: St))) : Go p e below s cm sm Q T (mkF m pc Ls (.int y :: .int x :: St)) := by
  subst hp
  exact Go.st (fun t q => XS.ior (g := mkF m pc Ls (.int y :: .int x :: St)) X.here hx rfl hd rfl q) kk
theorem w_lor (X : Stand p l e R s m args below meth c T locs cells slots) (hx : p.tables.exec = Jvm.exec) {x y : Int64} (hd : decode c.code pc = .ok (.lor, 1)) (hp : pc + 1 = pc')
    (kk : Go p e below s cm sm Q T (mkF m pc' Ls (.long (x ||| y) :: St))) : Go p e below s cm sm Q T (mkF m pc Ls (.long y :: .long x :: St)) := by
  subst hp
  exact Go.st (fun t q => XS.lor (g := mkF m pc Ls (.long y :: .long x :: St)) X.here hx rfl hd rfl q) kk
theorem w_ixor (X : Stand p l e R s m args below meth c T locs cells slots) (hx : p.tables.exec = Jvm.exec) {x y : Int32} (hd : decode c.code pc = .ok (.ixor, 1)) (hp : pc + 1 = pc')
    (kk : Go p e below s cm sm Q T (mkF m pc' Ls (.int (x ^^^ y) :: St))) : Go p e below s cm sm Q T (mkF m pc Ls (.int y :: .int x :: St)) := by
  subst hp
  exact Go.st (fun t q => XS.ixor (g := mkF m pc Ls (.int y :: .int x :: St)) X.here hx rfl hd rfl q) kk
theorem w_lxor (X : Stand p l e R s m args below meth c T locs cells slots) (hx : p.tables.exec = Jvm.exec) {x y : Int64} (hd : decode c.code pc = .ok (.lxor, 1)) (hp : pc + 1 = pc')
    (kk : Go p e below s cm sm Q T (mkF m pc' Ls (.long (x ^^^ y) :: St))) : Go p e below s cm sm Q T (mkF m pc Ls (.long y :: .long x :: St)) := by
  subst hp
  exact Go.st (fun t q => XS.lxor (g := mkF m pc Ls (.long y :: .long x :: St)) X.here hx rfl hd rfl q) kk
theorem w_idiv (X : Stand p l e R s m args below meth c T locs cells slots) (hx : p.tables.exec = Jvm.exec) {x y : Int32} (hd : decode c.code pc = .ok (.idiv, 1)) (hp : pc + 1 = pc') (hy : y ≠ 0)
    (kk : Go p e below s cm sm Q T (mkF m pc' Ls (.int (x / y) :: St))) : Go p e below s cm sm Q T (mkF m pc Ls (.int y :: .int x :: St)) := by
  subst hp
  exact Go.st (fun t q => XS.idiv (g := mkF m pc Ls (.int y :: .int x :: St)) X.here hx rfl hd rfl hy q) kk
theorem own_irem (x y : Int32) : x - x / y * y = x % y := by
  apply Int32.toInt_inj.mp
  have h : x.toInt - x.toInt.tdiv y.toInt * y.toInt = x.toInt.tmod y.toInt := by
    have := Int.mul_tdiv_add_tmod x.toInt y.toInt
    rw [Int.mul_comm]; omega
  have hr := (x % y).toInt_lt
  have hl := (x % y).le_toInt
  rw [Int32.toInt_mod] at hr hl
  rw [Int32.toInt_sub, Int32.toInt_mul, Int32.toInt_div, Int32.toInt_mod, Int.bmod_mul_bmod, Int.sub_bmod_bmod, h, Jvm.Kit.bmod32 (by omega) (by omega)]
theorem w_irem (X : Stand p l e R s m args below meth c T locs cells slots) (hx : p.tables.exec = Jvm.exec) {x y : Int32} (hd : decode c.code pc = .ok (.irem, 1)) (hp : pc + 1 = pc') (hy : y ≠ 0)
    (kk : Go p e below s cm sm Q T (mkF m pc' Ls (.int (x % y) :: St))) : Go p e below s cm sm Q T (mkF m pc Ls (.int y :: .int x :: St)) := by
  subst hp
  rw [← own_irem] at kk
  exact Go.st (fun t q => XS.irem (g := mkF m pc Ls (.int y :: .int x :: St)) X.here hx rfl hd rfl hy q) kk
theorem w_ldiv (X : Stand p l e R s m args below meth c T locs cells slots) (hx : p.tables.exec = Jvm.exec) {x y : Int64} (hd : decode c.code pc = .ok (.ldiv, 1)) (hp : pc + 1 = pc') (hy : y ≠ 0)
    (kk : Go p e below s cm sm Q T (mkF m pc' Ls (.long (x / y) :: St))) : Go p e below s cm sm Q T (mkF m pc Ls (.long y :: .long x :: St)) := by
  subst hp
  exact Go.st (fun t q => XS.ldiv (g := mkF m pc Ls (.long y :: .long x :: St)) X.here hx rfl hd rfl hy q) kk
theorem own_lrem (x y : Int64) : x - x / y * y = x % y := by
  apply Int64.toInt_inj.mp
  have h : x.toInt - x.toInt.tdiv y.toInt * y.toInt = x.toInt.tmod y.toInt := by
    have := Int.mul_tdiv_add_tmod x.toInt y.toInt
    rw [Int.mul_comm]; omega
  have hr := (x % y).toInt_lt
  have hl := (x % y).le_toInt
  rw [Int64.toInt_mod] at hr hl
  rw [Int64.toInt_sub, Int64.toInt_mul, Int64.toInt_div, Int64.toInt_mod, Int.bmod_mul_bmod, Int.sub_bmod_bmod, h, Jvm.Kit.bmod64 (by omega) (by omega)]
theorem w_lrem (X : Stand p l e R s m args below meth c T locs cells slots) (hx : p.tables.exec = Jvm.exec) {x y : Int64} (hd : decode c.code pc = .ok (.lrem, 1)) (hp : pc + 1 = pc') (hy : y ≠ 0)
    (kk : Go p e below s cm sm Q T (mkF m pc' Ls (.long (x % y) :: St))) : Go p e below s cm sm Q T (mkF m pc Ls (.long y :: .long x :: St)) := by
  subst hp
  rw [← own_lrem] at kk
  exact Go.st (fun t q => XS.lrem (g := mkF m pc Ls (.long y :: .long x :: St)) X.here hx rfl hd rfl hy q) kk
theorem w_ineg (X : Stand p l e R s m args below meth c T locs cells slots) (hx : p.tables.exec = Jvm.exec) {x : Int32} (hd : decode c.code pc = .ok (.ineg, 1)) (hp : pc + 1 = pc')
    (kk : Go p e below s cm sm Q T (mkF m pc' Ls (.int (-x) :: St))) : Go p e below s cm sm Q T (mkF m pc Ls (.int x :: St)) := by
  subst hp
  exact Go.st (fun t q => XS.ineg (g := mkF m pc Ls (.int x :: St)) X.here hx rfl hd rfl q) kk
theorem w_lneg (X : Stand p l e R s m args below meth c T locs cells slots) (hx : p.tables.exec = Jvm.exec) {x : Int64} (hd : decode c.code pc = .ok (.lneg, 1)) (hp : pc + 1 = pc')
    (kk : Go p e below s cm sm Q T (mkF m pc' Ls (.long (-x) :: St))) : Go p e below s cm sm Q T (mkF m pc Ls (.long x :: St)) := by
  subst hp
  exact Go.st (fun t q => XS.lneg (g := mkF m pc Ls (.long x :: St)) X.here hx rfl hd rfl q) kk
theorem w_i2l (X : Stand p l e R s m args below meth c T locs cells slots) (hx : p.tables.exec = Jvm.exec) {x : Int32} (hd : decode c.code pc = .ok (.i2l, 1)) (hp : pc + 1 = pc')
    (kk : Go p e below s cm sm Q T (mkF m pc' Ls (.long x.toInt64 :: St))) : Go p e below s cm sm Q T (mkF m pc Ls (.int x :: St)) := by
  subst hp
  exact Go.st (fun t q => XS.i2l (g := mkF m pc Ls (.int x :: St)) X.here hx rfl hd rfl q) kk
theorem w_l2i (X : Stand p l e R s m args below meth c T locs cells slots) (hx : p.tables.exec = Jvm.exec) {x : Int64} (hd : decode c.code pc = .ok (.l2i, 1)) (hp : pc + 1 = pc')
    (kk : Go p e below s cm sm Q T (mkF m pc' Ls (.int x.toInt32 :: St))) : Go p e below s cm sm Q T (mkF m pc Ls (.long x :: St)) := by
  subst hp
  exact Go.st (fun t q => XS.l2i (g := mkF m pc Ls (.long x :: St)) X.here hx rfl hd rfl q) kk
theorem w_i2b (X : Stand p l e R s m args below meth c T locs cells slots) (hx : p.tables.exec = Jvm.exec) {x : Int32} (hd : decode c.code pc = .ok (.i2b, 1)) (hp : pc + 1 = pc')
    (kk : Go p e below s cm sm Q T (mkF m pc' Ls (.int x.toInt8.toInt32 :: St))) : Go p e below s cm sm Q T (mkF m pc Ls (.int x :: St)) := by
  subst hp
  exact Go.st (fun t q => XS.i2b (g := mkF m pc Ls (.int x :: St)) X.here hx rfl hd rfl q) kk
theorem w_i2c (X : Stand p l e R s m args below meth c T locs cells slots) (hx : p.tables.exec = Jvm.exec) {x : Int32} (hd : decode c.code pc = .ok (.i2c, 1)) (hp : pc + 1 = pc')
    (kk : Go p e below s cm sm Q T (mkF m pc' Ls (.int x.toUInt32.toUInt16.toUInt32.toInt32 :: St))) : Go p e below s cm sm Q T (mkF m pc Ls (.int x :: St)) := by
  subst hp
  exact Go.st (fun t q => XS.i2c (g := mkF m pc Ls (.int x :: St)) X.here hx rfl hd rfl q) kk
theorem w_ishl (X : Stand p l e R s m args below meth c T locs cells slots) (hx : p.tables.exec = Jvm.exec) {x y : Int32} (hd : decode c.code pc = .ok (.ishl, 1)) (hp : pc + 1 = pc')
    (kk : Go p e below s cm sm Q T (mkF m pc' Ls (.int (x <<< (y &&& 31)) :: St))) : Go p e below s cm sm Q T (mkF m pc Ls (.int y :: .int x :: St)) := by
  subst hp
  exact Go.st (fun t q => XS.ishl (g := mkF m pc Ls (.int y :: .int x :: St)) X.here hx rfl hd rfl q) kk
theorem w_ishr (X : Stand p l e R s m args below meth c T locs cells slots) (hx : p.tables.exec = Jvm.exec) {x y : Int32} (hd : decode c.code pc = .ok (.ishr, 1)) (hp : pc + 1 = pc')
    (kk : Go p e below s cm sm Q T (mkF m pc' Ls (.int (x >>> (y &&& 31)) :: St))) : Go p e below s cm sm Q T (mkF m pc Ls (.int y :: .int x :: St)) := by
  subst hp
  exact Go.st (fun t q => XS.ishr (g := mkF m pc Ls (.int y :: .int x :: St)) X.here hx rfl hd rfl q) kk
theorem w_iushr (X : Stand p l e R s m args below meth c T locs cells slots) (hx : p.tables.exec = Jvm.exec) {x y : Int32} (hd : decode c.code pc = .ok (.iushr, 1)) (hp : pc + 1 = pc')
    (kk : Go p e below s cm sm Q T (mkF m pc' Ls (.int (jushr x y) :: St))) : Go p e below s cm sm Q T (mkF m pc Ls (.int y :: .int x :: St)) := by
  subst hp
  exact Go.st (fun t q => XS.iushr (g := mkF m pc Ls (.int y :: .int x :: St)) X.here hx rfl hd rfl q) kk
theorem w_lshl (X : Stand p l e R s m args below meth c T locs cells slots) (hx : p.tables.exec = Jvm.exec) {x : Int64} {y : Int32} (hd : decode c.code pc = .ok (.lshl, 1)) (hp : pc + 1 = pc')
    (kk : Go p e below s cm sm Q T (mkF m pc' Ls (.long (x <<< (y &&& 0x3f).toInt64) :: St))) : Go p e below s cm sm Q T (mkF m pc Ls (.int y :: .long x :: St)) := by
  subst hp
  exact Go.st (fun t q => XS.lshl (g := mkF m pc Ls (.int y :: .long x :: St)) X.here hx rfl hd rfl q) kk
theorem w_lshr (X : Stand p l e R s m args below meth c T locs cells slots) (hx : p.tables.exec = Jvm.exec) {x : Int64} {y : Int32} (hd : decode c.code pc = .ok (.lshr, 1)) (hp : pc + 1 = pc')
    (kk : Go p e below s cm sm Q T (mkF m pc' Ls (.long (x >>> (y &&& 0x3f).toInt64) :: St))) : Go p e below s cm sm Q T (mkF m pc Ls (.int y :: .long x :: St)) := by
  subst hp
  exact Go.st (fun t q => XS.lshr (g := mkF m pc Ls (.int y :: .long x :: St)) X.here hx rfl hd rfl q) kk
theorem w_lushr (X : Stand p l e R s m args below meth c T locs cells slots) (hx : p.tables.exec = Jvm.exec) {x : Int64} {y : Int32} (hd : decode c.code pc = .ok (.lushr, 1)) (hp : pc + 1 = pc')
    (kk : Go p e below s cm sm Q T (mkF m pc' Ls (.long (jlushr x y) :: St))) : Go p e below s cm sm Q T (mkF m pc Ls (.int y :: .long x :: St)) := by
  subst hp
  exact Go.st (fun t q => XS.lushr (g := mkF m pc Ls (.int y :: .long x :: St)) X.here hx rfl hd rfl q) kk
theorem w_lcmp (X : Stand p l e R s m args below meth c T locs cells slots) (hx : p.tables.exec = Jvm.exec) {x y : Int64} (hd : decode c.code pc = .ok (.lcmp, 1)) (hp : pc + 1 = pc')
    (kk : Go p e below s cm sm Q T (mkF m pc' Ls (.int (lcmpW x y) :: St))) : Go p e below s cm sm Q T (mkF m pc Ls (.long y :: .long x :: St)) := by
  subst hp
  exact Go.st (fun t q => XS.lcmp (g := mkF m pc Ls (.long y :: .long x :: St)) X.here hx rfl hd rfl q) kk
theorem w_dup (X : Stand p l e R s m args below meth c T locs cells slots) (hx : p.tables.exec = Jvm.exec) {x : Value} (hd : decode c.code pc = .ok (.dup, 1)) (hp : pc + 1 = pc') (hv : x.category = 1)
    (kk : Go p e below s cm sm Q T (mkF m pc' Ls (x :: x :: St))) : Go p e below s cm sm Q T (mkF m pc Ls (x :: St)) := by
  subst hp
  exact Go.st (fun t q => XS.dup (g := mkF m pc Ls (x :: St)) X.here hx rfl hd rfl hv q) kk
theorem w_pop (X : Stand p l e R s m args below meth c T locs cells slots) (hx : p.tables.exec = Jvm.exec) {x : Value} (hd : decode c.code pc = .ok (.pop, 1)) (hp : pc + 1 = pc') (hv : x.category = 1)
    (kk : Go p e below s cm sm Q T (mkF m pc' Ls (St))) : Go p e below s cm sm Q T (mkF m pc Ls (x :: St)) := by
  subst hp
  exact Go.st (fun t q => XS.pop (g := mkF m pc Ls (x :: St)) X.here hx rfl hd rfl hv q) kk
theorem w_dupX1 (X : Stand p l e R s m args below meth c T locs cells slots) (hx : p.tables.exec = Jvm.exec) {x y : Value} (hd : decode c.code pc = .ok (.dup_x1, 1)) (hp : pc + 1 = pc') (hv : x.category = 1) (hv' : y.category = 1)
    (kk : Go p e below s cm sm Q T (mkF m pc' Ls (x :: y :: x :: St))) : Go p e below s cm sm Q T (mkF m pc Ls (x :: y :: St)) := by
  subst hp
  exact Go.st (fun t q => XS.dupX1 (g := mkF m pc Ls (x :: y :: St)) X.here hx rfl hd rfl hv hv' q) kk
theorem w_iinc (X : Stand p l e R s m args below meth c T locs cells slots) (hx : p.tables.exec = Jvm.exec) {k : Nat} {cst : Int} {x w : Int32} (hd : decode c.code pc = .ok (.iinc k cst, 3)) (hp : pc + 3 = pc') (hl : Ls[k]? = some (.val (.int x))) (hv : Int32.ofInt cst = w) (hl' : storeLocals Ls k (.int (x + w)) = some Ls')
    (kk : Go p e below s cm sm Q T (mkF m pc' Ls' St)) : Go p e below s cm sm Q T (mkF m pc Ls St) := by
  subst hp hv
  exact Go.st (fun t q => XS.iinc (g := mkF m pc Ls St) X.here hx rfl hd hl hl' q) kk
theorem w_goto (X : Stand p l e R s m args below meth c T locs cells slots) (hx : p.tables.exec = Jvm.exec) {o : Int} (hd : decode c.code pc = .ok (.goto o, 3)) (ho : 0 ≤ (pc : Int) + o) (hp : ((pc : Int) + o).toNat = pc')
    (kk : Go p e below s cm sm Q T (mkF m pc' Ls St)) : Go p e below s cm sm Q T (mkF m pc Ls St) :=
  Go.st (fun t q => XS.goto (g := mkF m pc Ls St) X.here hx rfl (pc0 := pc) (pc' := pc') rfl hd ho hp q) kk
theorem w_icmp0 (X : Stand p l e R s m args below meth c T locs cells slots) (hx : p.tables.exec = Jvm.exec) {cd : ClassFile.Cond} {x y : Int32} {o : Int} {pt pf : Nat} (hd : decode c.code pc = .ok (.if_icmp cd o, 3)) (hf : pc + 3 = pf) (ho : 0 ≤ (pc : Int) + o) (hp : ((pc : Int) + o).toNat = pt)
    (kT : if_icmp.holds cd x y = true → Go p e below s cm sm Q T (mkF m pt Ls St)) (kF : if_icmp.holds cd x y = false → Go p e below s cm sm Q T (mkF m pf Ls St)) : Go p e below s cm sm Q T (mkF m pc Ls (.int y :: .int x :: St)) := by
  subst hf
  cases hc : if_icmp.holds cd x y with
  | true => exact Go.st (fun t q => XS.icmpYes (g := mkF m pc Ls (.int y :: .int x :: St)) X.here hx rfl (pc0 := pc) (pc' := pt) rfl hd rfl hc ho hp q) (kT hc)
  | false => exact Go.st (fun t q => XS.icmpNo (g := mkF m pc Ls (.int y :: .int x :: St)) X.here hx rfl hd rfl hc q) (kF hc)
theorem w_if0 (X : Stand p l e R s m args below meth c T locs cells slots) (hx : p.tables.exec = Jvm.exec) {cd : ClassFile.Cond} {x : Int32} {o : Int} {pt pf : Nat} (hd : decode c.code pc = .ok (.ifCond cd o, 3)) (hf : pc + 3 = pf) (ho : 0 ≤ (pc : Int) + o) (hp : ((pc : Int) + o).toNat = pt)
    (kT : if_icmp.holds cd x 0 = true → Go p e below s cm sm Q T (mkF m pt Ls St)) (kF : if_icmp.holds cd x 0 = false → Go p e below s cm sm Q T (mkF m pf Ls St)) : Go p e below s cm sm Q T (mkF m pc Ls (.int x :: St)) := by
  subst hf
  cases hc : if_icmp.holds cd x 0 with
  | true => exact Go.st (fun t q => XS.ifYes (g := mkF m pc Ls (.int x :: St)) X.here hx rfl (pc0 := pc) (pc' := pt) rfl hd rfl ((if0 _ _).trans hc) ho hp q) (kT hc)
  | false => exact Go.st (fun t q => XS.ifNo (g := mkF m pc Ls (.int x :: St)) X.here hx rfl hd rfl ((if0 _ _).trans hc) q) (kF hc)
theorem h_lt {x y : Int32} : (if_icmp.holds .lt x y = true → x < y) ∧ (if_icmp.holds .lt x y = false → ¬ x < y) := ⟨fun h => Decidable.byContradiction fun q => by simp [(flt q).1] at h, fun h q => by simp [(tlt q).1] at h⟩
theorem h_ge {x y : Int32} : (if_icmp.holds .ge x y = true → ¬ x < y) ∧ (if_icmp.holds .ge x y = false → x < y) := ⟨fun h q => by simp [(tlt q).2.1] at h, fun h => Decidable.byContradiction fun q => by simp [(flt q).2.1] at h⟩
theorem h_gt {x y : Int32} : (if_icmp.holds .gt x y = true → y < x) ∧ (if_icmp.holds .gt x y = false → ¬ y < x) := ⟨fun h => Decidable.byContradiction fun q => by simp [(flt q).2.2.1] at h, fun h q => by simp [(tlt q).2.2.1] at h⟩
theorem h_le {x y : Int32} : (if_icmp.holds .le x y = true → ¬ y < x) ∧ (if_icmp.holds .le x y = false → y < x) := ⟨fun h q => by simp [(tlt q).2.2.2] at h, fun h => Decidable.byContradiction fun q => by simp [(flt q).2.2.2] at h⟩
theorem h_eq {x y : Int32} : (if_icmp.holds .eq x y = true → x = y) ∧ (if_icmp.holds .eq x y = false → ¬ x = y) := ⟨fun h => Decidable.byContradiction fun q => by simp [(feq q).1] at h, fun h q => by simp [(teq q).1] at h⟩
theorem h_ne {x y : Int32} : (if_icmp.holds .ne x y = true → ¬ x = y) ∧ (if_icmp.holds .ne x y = false → x = y) := ⟨fun h q => by simp [(teq q).2] at h, fun h => Decidable.byContradiction fun q => by simp [(feq q).2] at h⟩
theorem w_icmp_lt (X : Stand p l e R s m args below meth c T locs cells slots) (hx : p.tables.exec = Jvm.exec) {x y : Int32} {o : Int} {pt pf : Nat} (hd : decode c.code pc = .ok (.if_icmp .lt o, 3)) (hf : pc + 3 = pf) (ho : 0 ≤ (pc : Int) + o) (hp : ((pc : Int) + o).toNat = pt)
    (kT : x < y → Go p e below s cm sm Q T (mkF m pt Ls St)) (kF : ¬ (x < y) → Go p e below s cm sm Q T (mkF m pf Ls St)) : Go p e below s cm sm Q T (mkF m pc Ls (.int y :: .int x :: St)) :=
  w_icmp0 X hx hd hf ho hp (fun h => kT (h_lt.1 h)) (fun h => kF (h_lt.2 h))
theorem w_if_lt (X : Stand p l e R s m args below meth c T locs cells slots) (hx : p.tables.exec = Jvm.exec) {x : Int32} {o : Int} {pt pf : Nat} (hd : decode c.code pc = .ok (.ifCond .lt o, 3)) (hf : pc + 3 = pf) (ho : 0 ≤ (pc : Int) + o) (hp : ((pc : Int) + o).toNat = pt)
    (kT : x < 0 → Go p e below s cm sm Q T (mkF m pt Ls St)) (kF : ¬ (x < 0) → Go p e below s cm sm Q T (mkF m pf Ls St)) : Go p e below s cm sm Q T (mkF m pc Ls (.int x :: St)) :=
  w_if0 X hx hd hf ho hp (fun h => kT (h_lt.1 h)) (fun h => kF (h_lt.2 h))
theorem w_ifL_lt (X : Stand p l e R s m args below meth c T locs cells slots) (hx : p.tables.exec = Jvm.exec) {x y : Int64} {o : Int} {pt pf : Nat} (hd : decode c.code pc = .ok (.ifCond .lt o, 3)) (hf : pc + 3 = pf) (ho : 0 ≤ (pc : Int) + o) (hp : ((pc : Int) + o).toNat = pt)
    (kT : x < y → Go p e below s cm sm Q T (mkF m pt Ls St)) (kF : ¬ (x < y) → Go p e below s cm sm Q T (mkF m pf Ls St)) : Go p e below s cm sm Q T (mkF m pc Ls (.int (lcmpW x y) :: St)) :=
  w_if_lt X hx hd hf ho hp (fun q => kT ((lw_lt x y).1 q)) (fun q => kF (fun r => q ((lw_lt x y).2 r)))
theorem w_icmp_ge (X : Stand p l e R s m args below meth c T locs cells slots) (hx : p.tables.exec = Jvm.exec) {x y : Int32} {o : Int} {pt pf : Nat} (hd : decode c.code pc = .ok (.if_icmp .ge o, 3)) (hf : pc + 3 = pf) (ho : 0 ≤ (pc : Int) + o) (hp : ((pc : Int) + o).toNat = pt)
    (kT : ¬ (x < y) → Go p e below s cm sm Q T (mkF m pt Ls St)) (kF : x < y → Go p e below s cm sm Q T (mkF m pf Ls St)) : Go p e below s cm sm Q T (mkF m pc Ls (.int y :: .int x :: St)) :=
  w_icmp0 X hx hd hf ho hp (fun h => kT (h_ge.1 h)) (fun h => kF (h_ge.2 h))
theorem w_if_ge (X : Stand p l e R s m args below meth c T locs cells slots) (hx : p.tables.exec = Jvm.exec) {x : Int32} {o : Int} {pt pf : Nat} (hd : decode c.code pc = .ok (.ifCond .ge o, 3)) (hf : pc + 3 = pf) (ho : 0 ≤ (pc : Int) + o) (hp : ((pc : Int) + o).toNat = pt)
    (kT : ¬ (x < 0) → Go p e below s cm sm Q T (mkF m pt Ls St)) (kF : x < 0 → Go p e below s cm sm Q T (mkF m pf Ls St)) : Go p e below s cm sm Q T (mkF m pc Ls (.int x :: St)) :=
  w_if0 X hx hd hf ho hp (fun h => kT (h_ge.1 h)) (fun h => kF (h_ge.2 h))
theorem w_ifL_ge (X : Stand p l e R s m args below meth c T locs cells slots) (hx : p.tables.exec = Jvm.exec) {x y : Int64} {o : Int} {pt pf : Nat} (hd : decode c.code pc = .ok (.ifCond .ge o, 3)) (hf : pc + 3 = pf) (ho : 0 ≤ (pc : Int) + o) (hp : ((pc : Int) + o).toNat = pt)
    (kT : ¬ (x < y) → Go p e below s cm sm Q T (mkF m pt Ls St)) (kF : x < y → Go p e below s cm sm Q T (mkF m pf Ls St)) : Go p e below s cm sm Q T (mkF m pc Ls (.int (lcmpW x y) :: St)) :=
  w_if_ge X hx hd hf ho hp (fun q => kT (fun r => q ((lw_lt x y).2 r))) (fun q => kF ((lw_lt x y).1 q))
theorem w_icmp_gt (X : Stand p l e R s m args below meth c T locs cells slots) (hx : p.tables.exec = Jvm.exec) {x y : Int32} {o : Int} {pt pf : Nat} (hd : decode c.code pc = .ok (.if_icmp .gt o, 3)) (hf : pc + 3 = pf) (ho : 0 ≤ (pc : Int) + o) (hp : ((pc : Int) + o).toNat = pt)
    (kT : y < x → Go p e below s cm sm Q T (mkF m pt Ls St)) (kF : ¬ (y < x) → Go p e below s cm sm Q T (mkF m pf Ls St)) : Go p e below s cm sm Q T (mkF m pc Ls (.int y :: .int x :: St)) :=
  w_icmp0 X hx hd hf ho hp (fun h => kT (h_gt.1 h)) (fun h => kF (h_gt.2 h))
theorem w_if_gt (X : Stand p l e R s m args below meth c T locs cells slots) (hx : p.tables.exec = Jvm.exec) {x : Int32} {o : Int} {pt pf : Nat} (hd : decode c.code pc = .ok (.ifCond .gt o, 3)) (hf : pc + 3 = pf) (ho : 0 ≤ (pc : Int) + o) (hp : ((pc : Int) + o).toNat = pt)
    (kT : 0 < x → Go p e below s cm sm Q T (mkF m pt Ls St)) (kF : ¬ (0 < x) → Go p e below s cm sm Q T (mkF m pf Ls St)) : Go p e below s cm sm Q T (mkF m pc Ls (.int x :: St)) :=
  w_if0 X hx hd hf ho hp (fun h => kT (h_gt.1 h)) (fun h => kF (h_gt.2 h))
theorem w_ifL_gt (X : Stand p l e R s m args below meth c T locs cells slots) (hx : p.tables.exec = Jvm.exec) {x y : Int64} {o : Int} {pt pf : Nat} (hd : decode c.code pc = .ok (.ifCond .gt o, 3)) (hf : pc + 3 = pf) (ho : 0 ≤ (pc : Int) + o) (hp : ((pc : Int) + o).toNat = pt)
    (kT : y < x → Go p e below s cm sm Q T (mkF m pt Ls St)) (kF : ¬ (y < x) → Go p e below s cm sm Q T (mkF m pf Ls St)) : Go p e below s cm sm Q T (mkF m pc Ls (.int (lcmpW x y) :: St)) :=
  w_if_gt X hx hd hf ho hp (fun q => kT ((lw_gt x y).1 q)) (fun q => kF (fun r => q ((lw_gt x y).2 r)))
theorem w_icmp_le (X : Stand p l e R s m args below meth c T locs cells slots) (hx : p.tables.exec = Jvm.exec) {x y : Int32} {o : Int} {pt pf : Nat} (hd : decode c.code pc = .ok (.if_icmp .le o, 3)) (hf : pc + 3 = pf) (ho : 0 ≤ (pc : Int) + o) (hp : ((pc : Int) + o).toNat = pt)
    (kT : ¬ (y < x) → Go p e below s cm sm Q T (mkF m pt Ls St)) (kF : y < x → Go p e below s cm sm Q T (mkF m pf Ls St)) : Go p e below s cm sm Q T (mkF m pc Ls (.int y :: .int x :: St)) :=
  w_icmp0 X hx hd hf ho hp (fun h => kT (h_le.1 h)) (fun h => kF (h_le.2 h))
theorem w_if_le (X : Stand p l e R s m args below meth c T locs cells slots) (hx : p.tables.exec = Jvm.exec) {x : Int32} {o : Int} {pt pf : Nat} (hd : decode c.code pc = .ok (.ifCond .le o, 3)) (hf : pc + 3 = pf) (ho : 0 ≤ (pc : Int) + o) (hp : ((pc : Int) + o).toNat = pt)
    (kT : ¬ (0 < x) → Go p e below s cm sm Q T (mkF m pt Ls St)) (kF : 0 < x → Go p e below s cm sm Q T (mkF m pf Ls St)) : Go p e below s cm sm Q T (mkF m pc Ls (.int x :: St)) :=
  w_if0 X hx hd hf ho hp (fun h => kT (h_le.1 h)) (fun h => kF (h_le.2 h))
theorem w_ifL_le (X : Stand p l e R s m args below meth c T locs cells slots) (hx : p.tables.exec = Jvm.exec) {x y : Int64} {o : Int} {pt pf : Nat} (hd : decode c.code pc = .ok (.ifCond .le o, 3)) (hf : pc + 3 = pf) (ho : 0 ≤ (pc : Int) + o) (hp : ((pc : Int) + o).toNat = pt)
    (kT : ¬ (y < x) → Go p e below s cm sm Q T (mkF m pt Ls St)) (kF : y < x → Go p e below s cm sm Q T (mkF m pf Ls St)) : Go p e below s cm sm Q T (mkF m pc Ls (.int (lcmpW x y) :: St)) :=
  w_if_le X hx hd hf ho hp (fun q => kT (fun r => q ((lw_gt x y).2 r))) (fun q => kF ((lw_gt x y).1 q))
theorem w_icmp_eq (X : Stand p l e R s m args below meth c T locs cells slots) (hx : p.tables.exec = Jvm.exec) {x y : Int32} {o : Int} {pt pf : Nat} (hd : decode c.code pc = .ok (.if_icmp .eq o, 3)) (hf : pc + 3 = pf) (ho : 0 ≤ (pc : Int) + o) (hp : ((pc : Int) + o).toNat = pt)
    (kT : x = y → Go p e below s cm sm Q T (mkF m pt Ls St)) (kF : ¬ (x = y) → Go p e below s cm sm Q T (mkF m pf Ls St)) : Go p e below s cm sm Q T (mkF m pc Ls (.int y :: .int x :: St)) :=
  w_icmp0 X hx hd hf ho hp (fun h => kT (h_eq.1 h)) (fun h => kF (h_eq.2 h))
theorem w_if_eq (X : Stand p l e R s m args below meth c T locs cells slots) (hx : p.tables.exec = Jvm.exec) {x : Int32} {o : Int} {pt pf : Nat} (hd : decode c.code pc = .ok (.ifCond .eq o, 3)) (hf : pc + 3 = pf) (ho : 0 ≤ (pc : Int) + o) (hp : ((pc : Int) + o).toNat = pt)
    (kT : x = 0 → Go p e below s cm sm Q T (mkF m pt Ls St)) (kF : ¬ (x = 0) → Go p e below s cm sm Q T (mkF m pf Ls St)) : Go p e below s cm sm Q T (mkF m pc Ls (.int x :: St)) :=
  w_if0 X hx hd hf ho hp (fun h => kT (h_eq.1 h)) (fun h => kF (h_eq.2 h))
theorem w_ifL_eq (X : Stand p l e R s m args below meth c T locs cells slots) (hx : p.tables.exec = Jvm.exec) {x y : Int64} {o : Int} {pt pf : Nat} (hd : decode c.code pc = .ok (.ifCond .eq o, 3)) (hf : pc + 3 = pf) (ho : 0 ≤ (pc : Int) + o) (hp : ((pc : Int) + o).toNat = pt)
    (kT : x = y → Go p e below s cm sm Q T (mkF m pt Ls St)) (kF : ¬ (x = y) → Go p e below s cm sm Q T (mkF m pf Ls St)) : Go p e below s cm sm Q T (mkF m pc Ls (.int (lcmpW x y) :: St)) :=
  w_if_eq X hx hd hf ho hp (fun q => kT ((lw_eq x y).1 q)) (fun q => kF (fun r => q ((lw_eq x y).2 r)))
theorem w_icmp_ne (X : Stand p l e R s m args below meth c T locs cells slots) (hx : p.tables.exec = Jvm.exec) {x y : Int32} {o : Int} {pt pf : Nat} (hd : decode c.code pc = .ok (.if_icmp .ne o, 3)) (hf : pc + 3 = pf) (ho : 0 ≤ (pc : Int) + o) (hp : ((pc : Int) + o).toNat = pt)
    (kT : ¬ (x = y) → Go p e below s cm sm Q T (mkF m pt Ls St)) (kF : x = y → Go p e below s cm sm Q T (mkF m pf Ls St)) : Go p e below s cm sm Q T (mkF m pc Ls (.int y :: .int x :: St)) :=
  w_icmp0 X hx hd hf ho hp (fun h => kT (h_ne.1 h)) (fun h => kF (h_ne.2 h))
theorem w_if_ne (X : Stand p l e R s m args below meth c T locs cells slots) (hx : p.tables.exec = Jvm.exec) {x : Int32} {o : Int} {pt pf : Nat} (hd : decode c.code pc = .ok (.ifCond .ne o, 3)) (hf : pc + 3 = pf) (ho : 0 ≤ (pc : Int) + o) (hp : ((pc : Int) + o).toNat = pt)
    (kT : ¬ (x = 0) → Go p e below s cm sm Q T (mkF m pt Ls St)) (kF : x = 0 → Go p e below s cm sm Q T (mkF m pf Ls St)) : Go p e below s cm sm Q T (mkF m pc Ls (.int x :: St)) :=
  w_if0 X hx hd hf ho hp (fun h => kT (h_ne.1 h)) (fun h => kF (h_ne.2 h))
theorem w_ifL_ne (X : Stand p l e R s m args below meth c T locs cells slots) (hx : p.tables.exec = Jvm.exec) {x y : Int64} {o : Int} {pt pf : Nat} (hd : decode c.code pc = .ok (.ifCond .ne o, 3)) (hf : pc + 3 = pf) (ho : 0 ≤ (pc : Int) + o) (hp : ((pc : Int) + o).toNat = pt)
    (kT : ¬ (x = y) → Go p e below s cm sm Q T (mkF m pt Ls St)) (kF : x = y → Go p e below s cm sm Q T (mkF m pf Ls St)) : Go p e below s cm sm Q T (mkF m pc Ls (.int (lcmpW x y) :: St)) :=
  w_if_ne X hx hd hf ho hp (fun q => kT (fun r => q ((lw_eq x y).2 r))) (fun q => kF ((lw_eq x y).1 q))
theorem w_ldc (X : Stand p l e R s m args below meth c T locs cells slots) (hx : p.tables.exec = Jvm.exec) (hZ : Z.Warmed39 s.vm) {own : String} {index : Nat} {v : Int32} (hown : s.vm.findClass own = some m.cls) (w : (Jvm.Cond.constant own index v).before a0 Z = true) (hd : decode c.code pc = .ok (.ldc index, 2)) (hp : pc + 2 = pc')
    (kk : Go p e below s cm sm Q T (mkF m pc' Ls (.int v :: St))) : Go p e below s cm sm Q T (mkF m pc Ls St) := by
  subst hp
  exact Go.st (fun t q => X.ldcInt hx hown (mvT hZ w) (g := mkF m pc Ls St) rfl hd t q) kk
theorem w_ldcw (X : Stand p l e R s m args below meth c T locs cells slots) (hx : p.tables.exec = Jvm.exec) (hZ : Z.Warmed39 s.vm) {own : String} {index : Nat} {v : Int32} (hown : s.vm.findClass own = some m.cls) (w : (Jvm.Cond.constant own index v).before a0 Z = true) (hd : decode c.code pc = .ok (.ldc_w index, 3)) (hp : pc + 3 = pc')
    (kk : Go p e below s cm sm Q T (mkF m pc' Ls (.int v :: St))) : Go p e below s cm sm Q T (mkF m pc Ls St) := by
  subst hp
  exact Go.st (fun t q => X.ldcWI hx hown (mvT hZ w) (g := mkF m pc Ls St) rfl hd q) kk
theorem w_ldc2 (X : Stand p l e R s m args below meth c T locs cells slots) (hx : p.tables.exec = Jvm.exec) (hZ : Z.Warmed39 s.vm) {own : String} {index : Nat} {v : Int64} (hown : s.vm.findClass own = some m.cls) (w : (Jvm.Cond.constantLong own index v).before a0 Z = true) (hd : decode c.code pc = .ok (.ldc2_w index, 3)) (hp : pc + 3 = pc')
    (kk : Go p e below s cm sm Q T (mkF m pc' Ls (.long v :: St))) : Go p e below s cm sm Q T (mkF m pc Ls St) := by
  subst hp
  exact Go.st (fun t q => X.ldc2Long hx hown (mvT hZ w) (g := mkF m pc Ls St) rfl hd t q) kk
theorem w_retZ (X : Stand p l e R s m args below meth c T locs cells slots) (hx : p.tables.exec = Jvm.exec) (hret : meth.sig.returnType = some .boolean) (hlk : meth.locks = false) {z : Int32} (hd : decode c.code pc = .ok (.ireturn, 1)) (hc : cells ≤ cm) (hs : slots ≤ sm) (hQ : Q (some (.int (nar .boolean z))) T.heap locs) : Go p e below s cm sm Q T (mkF m pc Ls (.int z :: St)) := by
  obtain ⟨fs, hr, hrun, hended, hW, hsame⟩ := X.leave (v := some (.int (nar .boolean z))) (fun h => by rw [hret] at h; cases h) hlk
  exact ⟨_, _, retN X hx (t := .boolean) hret (by simp) hd hr, hrun, hended, _, _, rfl, hQ, ⟨_, rfl⟩, hW, hsame.mono hc hs⟩
theorem w_retB (X : Stand p l e R s m args below meth c T locs cells slots) (hx : p.tables.exec = Jvm.exec) (hret : meth.sig.returnType = some .byte) (hlk : meth.locks = false) {z : Int32} (hd : decode c.code pc = .ok (.ireturn, 1)) (hc : cells ≤ cm) (hs : slots ≤ sm) (hQ : Q (some (.int (nar .byte z))) T.heap locs) : Go p e below s cm sm Q T (mkF m pc Ls (.int z :: St)) := by
  obtain ⟨fs, hr, hrun, hended, hW, hsame⟩ := X.leave (v := some (.int (nar .byte z))) (fun h => by rw [hret] at h; cases h) hlk
  exact ⟨_, _, retN X hx (t := .byte) hret (by simp) hd hr, hrun, hended, _, _, rfl, hQ, ⟨_, rfl⟩, hW, hsame.mono hc hs⟩
theorem w_retC (X : Stand p l e R s m args below meth c T locs cells slots) (hx : p.tables.exec = Jvm.exec) (hret : meth.sig.returnType = some .char) (hlk : meth.locks = false) {z : Int32} (hd : decode c.code pc = .ok (.ireturn, 1)) (hc : cells ≤ cm) (hs : slots ≤ sm) (hQ : Q (some (.int (nar .char z))) T.heap locs) : Go p e below s cm sm Q T (mkF m pc Ls (.int z :: St)) := by
  obtain ⟨fs, hr, hrun, hended, hW, hsame⟩ := X.leave (v := some (.int (nar .char z))) (fun h => by rw [hret] at h; cases h) hlk
  exact ⟨_, _, retN X hx (t := .char) hret (by simp) hd hr, hrun, hended, _, _, rfl, hQ, ⟨_, rfl⟩, hW, hsame.mono hc hs⟩
theorem w_retS (X : Stand p l e R s m args below meth c T locs cells slots) (hx : p.tables.exec = Jvm.exec) (hret : meth.sig.returnType = some .short) (hlk : meth.locks = false) {z : Int32} (hd : decode c.code pc = .ok (.ireturn, 1)) (hc : cells ≤ cm) (hs : slots ≤ sm) (hQ : Q (some (.int (nar .short z))) T.heap locs) : Go p e below s cm sm Q T (mkF m pc Ls (.int z :: St)) := by
  obtain ⟨fs, hr, hrun, hended, hW, hsame⟩ := X.leave (v := some (.int (nar .short z))) (fun h => by rw [hret] at h; cases h) hlk
  exact ⟨_, _, retN X hx (t := .short) hret (by simp) hd hr, hrun, hended, _, _, rfl, hQ, ⟨_, rfl⟩, hW, hsame.mono hc hs⟩
theorem w_retI (X : Stand p l e R s m args below meth c T locs cells slots) (hx : p.tables.exec = Jvm.exec) (hret : meth.sig.returnType = some .int) (hlk : meth.locks = false) {z : Int32} (hd : decode c.code pc = .ok (.ireturn, 1)) (hc : cells ≤ cm) (hs : slots ≤ sm) (hQ : Q (some (.int z)) T.heap locs) : Go p e below s cm sm Q T (mkF m pc Ls (.int z :: St)) := by
  obtain ⟨fs, hr, hrun, hended, hW, hsame⟩ := X.leave (v := some (.int z)) (fun h => by rw [hret] at h; cases h) hlk
  refine ⟨T.setFrames fs, _, ?_, hrun, hended, _, _, rfl, hQ, ⟨_, rfl⟩, hW, hsame.mono hc hs⟩
  have hm' : T.vm.method? m = some meth := X.method'
  have hn : narrow .int (.int z) = .int z := rfl
  show Steps p.tables e below (T.setTop { method := m, pc := pc, locals := Ls, stack := .int z :: St, locked := none }) _
  jvm_step X.here [X.here.top, hx, hd, hm', hret, hn]
  first | (intro acts; rw [hr _ acts rfl rfl rfl]) | rw [hr _ _ rfl rfl rfl]
  exact Steps.refl _
theorem w_retJ (X : Stand p l e R s m args below meth c T locs cells slots) (hx : p.tables.exec = Jvm.exec) (hret : meth.sig.returnType = some .long) (hlk : meth.locks = false) {z : Int64} (hd : decode c.code pc = .ok (.lreturn, 1)) (hc : cells ≤ cm) (hs : slots ≤ sm) (hQ : Q (some (.long z)) T.heap locs) : Go p e below s cm sm Q T (mkF m pc Ls [.long z]) := by
  obtain ⟨fs, hr, hrun, hended, hW, hsame⟩ := X.leave (v := some (.long z)) (fun h => by rw [hret] at h; cases h) hlk
  exact ⟨T.setFrames fs, _, X.lreturnOut hx hret hd hr, hrun, hended, _, _, rfl, hQ, ⟨_, rfl⟩, hW, hsame.mono hc hs⟩
theorem w_retV (X : Stand p l e R s m args below meth c T locs cells slots) (hx : p.tables.exec = Jvm.exec) (hret : meth.sig.returnType = none) (hlk : meth.locks = false) (hd : decode c.code pc = .ok (.return_, 1)) (hc : cells ≤ cm) (hs : slots ≤ sm) (hQ : Q none T.heap locs) : Go p e below s cm sm Q T (mkF m pc Ls []) := by
  obtain ⟨fs, hr, hrun, hended, hW, hsame⟩ := X.leave (v := none) (fun _ => rfl) hlk
  exact ⟨T.setFrames fs, _, X.returnOut hx hret hd hr, hrun, hended, _, _, rfl, hQ, ⟨_, rfl⟩, hW, hsame.mono hc hs⟩
theorem w_retA (X : Stand p l e R s m args below meth c T locs cells slots) (hx : p.tables.exec = Jvm.exec) {rt : FieldType} (hret : meth.sig.returnType = some rt) (hrt : rt.isReference = true) (hlk : meth.locks = false) {a : Addr} (hd : decode c.code pc = .ok (.areturn, 1)) (hc : cells ≤ cm) (hs : slots ≤ sm) (hQ : Q (some (.ref a)) T.heap locs) : Go p e below s cm sm Q T (mkF m pc Ls (.ref a :: St)) := by
  obtain ⟨fs, hr, hrun, hended, hW, hsame⟩ := X.leave (v := some (.ref a)) (fun h => by rw [hret] at h; cases h) hlk
  refine ⟨T.setFrames fs, _, ?_, hrun, hended, _, _, rfl, hQ, ⟨_, rfl⟩, hW, hsame.mono hc hs⟩
  have hm' : T.vm.method? m = some meth := X.method'
  show Steps p.tables e below (T.setTop { method := m, pc := pc, locals := Ls, stack := .ref a :: St, locked := none }) _
  jvm_step X.here [X.here.top, hx, hd, hm', hret, Value.isRef, hrt]
  first | (intro acts; rw [hr _ acts rfl rfl rfl]) | rw [hr _ _ rfl rfl rfl]
  exact Steps.refl _
theorem Con.back {y : MethodName} {bytes : ByteArray} {maxL : Nat} {ret : Option FieldType} {rm : Room} {len W : Nat} {as' : Array Value} {Qc : Option Value → Heap → List Loc → Prop} (C : Con l Z y bytes maxL ret rm as' h Qc) (hZ : Z.Warmed39 s.vm) (wc : (Jvm.Cond.code y bytes maxL ret).before a0 Z = true) (wz : (Jvm.Cond.initialized y.cls).before a0 Z = true) (hf : rm.frames + 1 ≤ R.frames) (hl : W + (maxL + 11) + rm.locals ≤ R.locals) :
    Back l R p e below s args y len W (fun A a => a = as' ∧ A.U.heap = h ∧ A.cells + rm.cells ≤ R.cells ∧ A.slots + rm.slots ≤ R.slots) (fun A _ v B => ∃ L, Qc v B.U.heap L ∧ B.locs = A.locs ++ L ∧ B.cells = A.cells + rm.cells ∧ B.slots = A.slots + rm.slots) :=
  backOf (C []) hZ wc wz hf hl
theorem w_callS (X : Stand p l e R s m args below meth c T locs cells slots) (hx : p.tables.exec = Jvm.exec) (hZ : Z.Warmed39 s.vm) {own : String} {index : Nat} {y : MethodName} {bytes : ByteArray} {maxL : Nat} {ret : Option FieldType} {rm : Room} {W : Nat} {argsL rest : List Value} {Qc : Option Value → Heap → List Loc → Prop} (hown : s.vm.findClass own = some m.cls) (eT : T.heap = h) (C : Con l Z y bytes maxL ret rm argsL.toArray h Qc) (w1 : (Jvm.Cond.methodLink own index y).before a0 Z = true) (w2 : (Jvm.Cond.static y).before a0 Z = true) (w3 : (Jvm.Cond.initialized y.cls).before a0 Z = true) (w4 : (Jvm.Cond.code y bytes maxL ret).before a0 Z = true) (hy : y.cls ≠ "java/lang/invoke/MethodHandle" ∧ y.cls ≠ "java/lang/invoke/VarHandle")
    (hf : rm.frames + 1 ≤ R.frames) (hl : W + (maxL + 11) + rm.locals ≤ R.locals) (hc : cells + rm.cells ≤ R.cells) (hs : slots + rm.slots ≤ R.slots) (hsz : Ls.size = c.maxLocals) (hlen : ∀ sig, parseMethodDescriptor y.desc = some sig → argsL.length = sig.parameters.length) (hW : (rest.map fun v => v.category).sum ≤ W) (hst : St = argsL.reverse ++ rest) (hd : decode c.code pc = .ok (.invokestatic index, 3)) (hp : pc + 3 = pc')
    (kk : ∀ (T' : State) (L : List Loc) (v : Option Value), Stand p l e R s m args below meth c T' (locs ++ L) (cells + rm.cells) (slots + rm.slots) → Qc v T'.heap L → Go p e below s cm sm Q T' (mkF m pc' Ls (v.toList ++ rest))) : Go p e below s cm sm Q T (mkF m pc Ls St) := by
  subst hp hst
  obtain ⟨v, _, ⟨T1, L1, k1, n1⟩, -, X1, ⟨Lc, hQ, l1, y1, z1⟩, st⟩ := Jvm.LawKit.callS X hx (y := y) hown (mvT hZ w1) (mvT hZ w2) (mvT hZ w3) (mvT hZ w4) hy (C.back (W := W) hZ w4 w3 hf hl) (g := mkF m pc Ls (argsL.reverse ++ rest)) rfl hsz (argsL := argsL) (rest := rest) hlen rfl (by show 2 * 0 + _ ≤ _; rw [Nat.mul_zero, Nat.zero_add]; exact hW) hd (fun _ _ => ⟨rfl, eT, hc, hs⟩)
  dsimp only [Pt.U, Pt.locs, Pt.cells, Pt.slots] at X1 l1 y1 z1 st hQ
  subst l1 y1 z1
  exact Go.st st (kk _ _ _ X1 hQ)
theorem w_callI (X : Stand p l e R s m args below meth c T locs cells slots) (hx : p.tables.exec = Jvm.exec) (hZ : Z.Warmed39 s.vm) {own : String} {index : Nat} {y : MethodName} {bytes : ByteArray} {maxL : Nat} {rm : Room} {W : Nat} {argsL rest : List Value} {Qc : Option Value → Heap → List Loc → Prop} {a : Addr} (hown : s.vm.findClass own = some m.cls) (eT : T.heap = h) (C : Con l Z y bytes maxL none rm (.ref a :: argsL).toArray h Qc) (hn : y.name = "<init>") (w1 : (Jvm.Cond.methodLink own index y).before a0 Z = true) (w2 : (Jvm.Cond.instanceMethod y).before a0 Z = true) (w3 : (Jvm.Cond.initialized y.cls).before a0 Z = true) (w4 : (Jvm.Cond.code y bytes maxL none).before a0 Z = true) (hy : y.cls ≠ "java/lang/invoke/MethodHandle" ∧ y.cls ≠ "java/lang/invoke/VarHandle")
    (hf : rm.frames + 1 ≤ R.frames) (hl : W + (maxL + 11) + rm.locals ≤ R.locals) (hc : cells + rm.cells ≤ R.cells) (hs : slots + rm.slots ≤ R.slots) (hsz : Ls.size = c.maxLocals) (hlen : ∀ sig, parseMethodDescriptor y.desc = some sig → argsL.length = sig.parameters.length) (hW : (rest.map fun v => v.category).sum ≤ W) (hst : St = argsL.reverse ++ .ref a :: rest) (hd : decode c.code pc = .ok (.invokespecial index, 3)) (hp : pc + 3 = pc')
    (kk : ∀ (T' : State) (L : List Loc) (v : Option Value), Stand p l e R s m args below meth c T' (locs ++ L) (cells + rm.cells) (slots + rm.slots) → Qc v T'.heap L → Go p e below s cm sm Q T' (mkF m pc' Ls (v.toList ++ rest))) : Go p e below s cm sm Q T (mkF m pc Ls St) := by
  subst hp hst
  obtain ⟨v, _, ⟨T1, L1, k1, n1⟩, -, X1, ⟨Lc, hQ, l1, y1, z1⟩, st⟩ := X.specialBack hx (y := y) hn hown (mvT hZ w1) (mvT hZ w2) (mvT hZ w4) hy (C.back (W := W) hZ w4 w3 hf hl) (g := mkF m pc Ls (argsL.reverse ++ .ref a :: rest)) rfl hsz (Steps.refl _) (a := a) (argsL := argsL) (rest := rest) hlen rfl (by show 2 * 0 + _ ≤ _; rw [Nat.mul_zero, Nat.zero_add]; exact hW) hd (fun _ _ => ⟨rfl, eT, hc, hs⟩)
  dsimp only [Pt.U, Pt.locs, Pt.cells, Pt.slots] at X1 l1 y1 z1 st hQ
  subst l1 y1 z1
  exact Go.st (fun t q => st.trans q) (kk _ _ _ X1 hQ)
theorem w_callV (X : Stand p l e R s m args below meth c T locs cells slots) (hx : p.tables.exec = Jvm.exec) (hZ : Z.Warmed39 s.vm) {own : String} {index : Nat} {y : MethodName} {bytes : ByteArray} {maxL : Nat} {ret : Option FieldType} {rm : Room} {W : Nat} {argsL rest : List Value} {Qc : Option Value → Heap → List Loc → Prop} {a : Addr} (hown : s.vm.findClass own = some m.cls) (eT : T.heap = h) (E : Exa Z h a y.cls) (C : Con l Z y bytes maxL ret rm (.ref a :: argsL).toArray h Qc) (w1 : (Jvm.Cond.methodLink own index y).before a0 Z = true) (wd : (Jvm.Cond.declares y).before a0 Z = true) (ws : (Jvm.Cond.selects y.cls y y).before a0 Z = true) (w2 : (Jvm.Cond.instanceMethod y).before a0 Z = true) (w3 : (Jvm.Cond.initialized y.cls).before a0 Z = true) (w4 : (Jvm.Cond.code y bytes maxL ret).before a0 Z = true) (hy : y.cls ≠ "java/lang/invoke/MethodHandle" ∧ y.cls ≠ "java/lang/invoke/VarHandle")
    (hf : rm.frames + 1 ≤ R.frames) (hl : W + (maxL + 11) + rm.locals ≤ R.locals) (hc : cells + rm.cells ≤ R.cells) (hs : slots + rm.slots ≤ R.slots) (hsz : Ls.size = c.maxLocals) (hlen : ∀ sig, parseMethodDescriptor y.desc = some sig → argsL.length = sig.parameters.length) (hW : (rest.map fun v => v.category).sum ≤ W) (hst : St = argsL.reverse ++ .ref a :: rest) (hd : decode c.code pc = .ok (.invokevirtual index, 3)) (hp : pc + 3 = pc')
    (kk : ∀ (T' : State) (L : List Loc) (v : Option Value), Stand p l e R s m args below meth c T' (locs ++ L) (cells + rm.cells) (slots + rm.slots) → Qc v T'.heap L → Go p e below s cm sm Q T' (mkF m pc' Ls (v.toList ++ rest))) : Go p e below s cm sm Q T (mkF m pc Ls St) := by
  subst hp hst
  obtain ⟨cq, kq, qa, qb, qc⟩ := isOf hZ eT E
  obtain ⟨v, _, ⟨T1, L1, k1, n1⟩, -, X1, ⟨Lc, hQ, l1, y1, z1⟩, st⟩ := X.virtualBack hx (y := y) (z := y) hown (mvT hZ w1) (mvT hZ wd) (notFace_of_selects (args := #[]) (mvT hZ ws)) (mvT hZ ws) (mvT hZ w2) hy (C.back (W := W) hZ w4 w3 hf hl) qa qc (g := mkF m pc Ls (argsL.reverse ++ .ref a :: rest)) rfl hsz (Steps.refl _) (argsL := argsL) (rest := rest) hlen rfl (by show 2 * 0 + _ ≤ _; rw [Nat.mul_zero, Nat.zero_add]; exact hW) hd (fun _ _ => ⟨rfl, eT, hc, hs⟩)
  dsimp only [Pt.U, Pt.locs, Pt.cells, Pt.slots] at X1 l1 y1 z1 st hQ
  subst l1 y1 z1
  exact Go.st (fun t q => st.trans q) (kk _ _ _ X1 hQ)
theorem w_initO (X : Stand p l e R s m args below meth c T locs cells slots) (hx : p.tables.exec = Jvm.exec) (hZ : Z.Warmed39 s.vm) {own : String} {index : Nat} {a : Addr} (hown : s.vm.findClass own = some m.cls) (eT : T.heap = h) (w1 : (Jvm.Cond.methodLink own index Lib.objectInit).before a0 Z = true) (w2 : (Jvm.Cond.instanceMethod Lib.objectInit).before a0 Z = true) (w3 : (Jvm.Cond.code Lib.objectInit ⟨#[0xb1]⟩ 1 none).before a0 Z = true) (hsz : Ls.size = c.maxLocals) (hd : decode c.code pc = .ok (.invokespecial index, 3)) (hf : 1 ≤ R.frames) {W : Nat} (hW : (St.map fun v => v.category).sum ≤ W) (hl : W + 12 ≤ R.locals) (hp : pc + 3 = pc')
    (kk : ∀ T' : State, Stand p l e R s m args below meth c T' locs cells slots → T'.heap = h → Go p e below s cm sm Q T' (mkF m pc' Ls St)) : Go p e below s cm sm Q T (mkF m pc Ls (.ref a :: St)) := by
  subst hp
  obtain ⟨T1, X1, e1, st⟩ := initO X hx hZ hown w1 w2 w3 eT (g := mkF m pc Ls (.ref a :: St)) rfl hsz rfl hd hf (W := W) (by show 2 * 0 + _ ≤ _; rw [Nat.mul_zero, Nat.zero_add]; exact hW) hl
  exact Go.st st (kk _ X1 e1)
theorem w_getF (X : Stand p l e R s m args below meth c T locs cells slots) (hx : p.tables.exec = Jvm.exec) (hZ : Z.Warmed39 s.vm) {own O n d : String} {index : Nat} {a : Addr} {v : Value} (hown : s.vm.findClass own = some m.cls) (eT : T.heap = h) (F : Fld Z h a O n d v) (w : (Jvm.Cond.fieldLink own index O n d).before a0 Z = true) (hd : decode c.code pc = .ok (.getfield index, 3)) (hp : pc + 3 = pc')
    (kk : ∀ T' : State, Stand p l e R s m args below meth c T' locs cells slots → T'.heap = h → Go p e below s cm sm Q T' (mkF m pc' Ls (v :: St))) : Go p e below s cm sm Q T (mkF m pc Ls (.ref a :: St)) := by
  subst hp
  obtain ⟨T1, X1, e1, st⟩ := getF X hx hZ hown (host := "") (Or.inl w) Via.refl eT F (g := mkF m pc Ls (.ref a :: St)) rfl rfl hd
  exact Go.st st (kk _ X1 e1)
theorem w_putF (X : Stand p l e R s m args below meth c T locs cells slots) (hx : p.tables.exec = Jvm.exec) (hZ : Z.Warmed39 s.vm) {own O n d C : String} {index kn : Nat} {ty : FieldType} {a : Addr} {v old : Value} (hown : s.vm.findClass own = some m.cls) (eT : T.heap = h) (F : Fld Z h a O n d old) (E : Exa Z h a C) (w : (Jvm.Cond.fieldLink own index O n d).before a0 Z = true) (L : (Jvm.Cond.lays C O n d).before a0 Z = true ∨ ((Jvm.Cond.laysFinal C O n d).before a0 Z = true ∧ own = O ∧ meth.name = "<init>")) (wi : (Jvm.Cond.instantiable C kn).before a0 Z = true) (hty : parseFieldDescriptor d = some ty) (hn : narrow ty v = v) (hf : fits ty v = true) (hd : decode c.code pc = .ok (.putfield index, 3)) (hp : pc + 3 = pc')
    (kk : ∀ (T' : State) (h' : Heap), Stand p l e R s m args below meth c T' (locs ++ [⟨a, RoadKit.slotOf Z O n d⟩]) cells slots → T'.heap = h' → Wr h h' a (RoadKit.slotOf Z O n d) v → Go p e below s cm sm Q T' (mkF m pc' Ls St)) : Go p e below s cm sm Q T (mkF m pc Ls (v :: .ref a :: St)) := by
  subst hp
  obtain ⟨T1, h1, X1, e1, W1, st⟩ := putF X hx hZ hown (host := "") (Or.inl w) Via.refl eT F E L wi hty hn hf (g := mkF m pc Ls (v :: .ref a :: St)) rfl rfl hd
  exact Go.st st (kk _ _ X1 e1 W1)
theorem w_newO (X : Stand p l e R s m args below meth c T locs cells slots) (hx : p.tables.exec = Jvm.exec) (hZ : Z.Warmed39 s.vm) {own C : String} {index kn : Nat} (hown : s.vm.findClass own = some m.cls) (eT : T.heap = h) (w : (Jvm.Cond.classLink own index C).before a0 Z = true) (wi : (Jvm.Cond.instantiable C kn).before a0 Z = true) (wz : (Jvm.Cond.initialized C).before a0 Z = true) (hd : decode c.code pc = .ok (.new index, 3)) (hc : cells + 1 ≤ R.cells) (hl : slots + kn ≤ R.slots) (hp : pc + 3 = pc')
    (kk : ∀ (T' : State) (h' : Heap) (b : Addr), Stand p l e R s m args below meth c T' locs (cells + 1) (slots + kn) → T'.heap = h' → Ext h h' → b = h.size → Exa Z h' b C → (∀ {O nm d : String} {ty : FieldType}, Laid Z a0 C O nm d → parseFieldDescriptor d = some ty → Fld Z h' b O nm d (defaultValue ty)) → Go p e below s cm sm Q T' (mkF m pc' Ls (.ref b :: St))) : Go p e below s cm sm Q T (mkF m pc Ls St) := by
  subst hp
  obtain ⟨T1, h1, X1, e1, E1, A1, D1, -, st⟩ := newO X hx hZ hown w wi wz eT (g := mkF m pc Ls St) rfl hd hc hl
  exact Go.st st (kk _ _ _ X1 e1 E1 rfl A1 D1)
/-- an array of ints, bytes, chars, shorts or booleans, by its list -/
def AI (Z : State) (h : Heap) (a : Addr) (ty : FieldType) (vs : List Int32) : Prop := ∃ c : Cell, Arr Z h a c ty ∧ c.slots.toList = vs.map Value.int ∧ vs.length < 2147483648
/-- an array of longs, by its list -/
def AJ (Z : State) (h : Heap) (a : Addr) (vs : List Int64) : Prop := ∃ c : Cell, Arr Z h a c .long ∧ c.slots.toList = vs.map Value.long ∧ vs.length < 2147483648
theorem AI.lt {a : Addr} {ty : FieldType} {vs : List Int32} (F : AI Z h a ty vs) : a < h.size := by obtain ⟨c, q, -⟩ := F; exact q.lt
theorem AI.ext {a : Addr} {ty : FieldType} {vs : List Int32} (F : AI Z h a ty vs) (E : Ext h h') : AI Z h' a ty vs := by obtain ⟨c, q, r⟩ := F; exact ⟨c, q.ext E, r⟩
theorem AI.other {a b : Addr} {ty : FieldType} {vs : List Int32} {sl : Nat} {v : Value} (F : AI Z h a ty vs) (W : Wr h h' b sl v) (q : a ≠ b) : AI Z h' a ty vs := by obtain ⟨c, A, r⟩ := F; exact ⟨c, A.other W q, r⟩
theorem AI.keep {a : Addr} {ty : FieldType} {vs : List Int32} {ws : List Addr} (F : AI Z h a ty vs) (K : Keep h h' ws) (q : a ∉ ws) : AI Z h' a ty vs := by obtain ⟨c, A, r⟩ := F; exact ⟨c, ⟨K.2.1 a c A.1 q, A.2⟩, r⟩
theorem AI.new {a : Addr} {k : ClassId} {z : Int32} {ty : FieldType} (A : Arr Z h a (newA k ty z) ty) (hd : defaultValue ty = .int 0) : AI Z h a ty (List.replicate z.toNatClampNeg 0) := by
  refine ⟨_, A, ?_, ?_⟩
  · simp [newA, hd]
  · have := z.toInt_lt; rw [List.length_replicate]; show z.toInt.toNat < _; omega
theorem AI.wr {a : Addr} {ty : FieldType} {vs : List Int32} {j : Nat} {x : Int32} (F : AI Z h a ty vs) (W : Wr h h' a j (Value.int x)) : AI Z h' a ty (vs.set j x) := by
  obtain ⟨c, A, q, r⟩ := F
  refine ⟨_, A.same W, ?_, by simpa using r⟩
  simp [Cell.setSlot, q, List.map_set]
theorem AI.len {a : Addr} {ty : FieldType} {vs : List Int32} (F : AI Z h a ty vs) : vs.length < 2147483648 := by obtain ⟨c, q, r, t⟩ := F; exact t
theorem AI.sz {vs : List Int32} {c : Cell} (q : c.slots.toList = vs.map Value.int) : c.slots.size = vs.length := by
  have := congrArg List.length q; simpa using this
theorem AI.at {vs : List Int32} {c : Cell} {j : Nat} {x : Int32} (q : c.slots.toList = vs.map Value.int) (hv : vs[j]? = some x) : c.slots[j]? = some (Value.int x) := by
  rw [← Array.getElem?_toList, q]; simp [hv]
theorem AI.inb {vs : List Int32} {c : Cell} {j : Int32} (q : c.slots.toList = vs.map Value.int) (hj : ¬ j < 0) (hl : j.toNatClampNeg < vs.length) : ¬ (j < 0 ∨ c.slots.size ≤ j.toNatClampNeg) := by
  have := AI.sz q
  rw [this]
  rintro (r | r)
  · exact hj r
  · omega
theorem AJ.lt {a : Addr} {vs : List Int64} (F : AJ Z h a vs) : a < h.size := by obtain ⟨c, q, -⟩ := F; exact q.lt
theorem AJ.ext {a : Addr} {vs : List Int64} (F : AJ Z h a vs) (E : Ext h h') : AJ Z h' a vs := by obtain ⟨c, q, r⟩ := F; exact ⟨c, q.ext E, r⟩
theorem AJ.other {a b : Addr} {vs : List Int64} {sl : Nat} {v : Value} (F : AJ Z h a vs) (W : Wr h h' b sl v) (q : a ≠ b) : AJ Z h' a vs := by obtain ⟨c, A, r⟩ := F; exact ⟨c, A.other W q, r⟩
theorem AJ.keep {a : Addr} {vs : List Int64} {ws : List Addr} (F : AJ Z h a vs) (K : Keep h h' ws) (q : a ∉ ws) : AJ Z h' a vs := by obtain ⟨c, A, r⟩ := F; exact ⟨c, ⟨K.2.1 a c A.1 q, A.2⟩, r⟩
theorem AJ.new {a : Addr} {k : ClassId} {z : Int32} (A : Arr Z h a (newA k .long z) .long) : AJ Z h a (List.replicate z.toNatClampNeg 0) := by
  refine ⟨_, A, ?_, ?_⟩
  · simp [newA, defaultValue]
  · have := z.toInt_lt; rw [List.length_replicate]; show z.toInt.toNat < _; omega
theorem AJ.wr {a : Addr} {vs : List Int64} {j : Nat} {x : Int64} (F : AJ Z h a vs) (W : Wr h h' a j (Value.long x)) : AJ Z h' a (vs.set j x) := by
  obtain ⟨c, A, q, r⟩ := F
  refine ⟨_, A.same W, ?_, by simpa using r⟩
  simp [Cell.setSlot, q, List.map_set]
theorem AJ.len {a : Addr} {vs : List Int64} (F : AJ Z h a vs) : vs.length < 2147483648 := by obtain ⟨c, q, r, t⟩ := F; exact t
theorem AJ.sz {vs : List Int64} {c : Cell} (q : c.slots.toList = vs.map Value.long) : c.slots.size = vs.length := by
  have := congrArg List.length q; simpa using this
theorem AJ.at {vs : List Int64} {c : Cell} {j : Nat} {x : Int64} (q : c.slots.toList = vs.map Value.long) (hv : vs[j]? = some x) : c.slots[j]? = some (Value.long x) := by
  rw [← Array.getElem?_toList, q]; simp [hv]
theorem AJ.inb {vs : List Int64} {c : Cell} {j : Int32} (q : c.slots.toList = vs.map Value.long) (hj : ¬ j < 0) (hl : j.toNatClampNeg < vs.length) : ¬ (j < 0 ∨ c.slots.size ≤ j.toNatClampNeg) := by
  have := AJ.sz q
  rw [this]
  rintro (r | r)
  · exact hj r
  · omega
theorem w_iaload (X : Stand p l e R s m args below meth c T locs cells slots) (hx : p.tables.exec = Jvm.exec) (hZ : Z.Warmed39 s.vm) {a : Addr} {vs : List Int32} {j : Int32} {v : Int32} (eT : T.heap = h) (F : AI Z h a .int vs) (hj : ¬ j < 0) (hv : vs[j.toNatClampNeg]? = some v) (hd : decode c.code pc = .ok (.iaload, 1)) (hp : pc + 1 = pc')
    (kk : Go p e below s cm sm Q T (mkF m pc' Ls (Value.int v :: St))) : Go p e below s cm sm Q T (mkF m pc Ls (.int j :: .ref a :: St)) := by
  subst hp
  obtain ⟨cl, A, q, r⟩ := F
  exact Go.st (fun t k => X.iaload hx (j := j) (v := Value.int v) (by rw [eT]; exact A.1) (State.isArrayOf_alike hZ.alike A.2.1) A.2.2 (AI.inb q hj (List.getElem?_eq_some_iff.mp hv).1) (AI.at q hv) (g := mkF m pc Ls (.int j :: .ref a :: St)) rfl rfl hd t k) kk
theorem w_baload (X : Stand p l e R s m args below meth c T locs cells slots) (hx : p.tables.exec = Jvm.exec) (hZ : Z.Warmed39 s.vm) {a : Addr} {vs : List Int32} {j : Int32} {v : Int32} (eT : T.heap = h) (F : AI Z h a .byte vs) (hj : ¬ j < 0) (hv : vs[j.toNatClampNeg]? = some v) (hd : decode c.code pc = .ok (.baload, 1)) (hp : pc + 1 = pc')
    (kk : Go p e below s cm sm Q T (mkF m pc' Ls (Value.int v :: St))) : Go p e below s cm sm Q T (mkF m pc Ls (.int j :: .ref a :: St)) := by
  subst hp
  obtain ⟨cl, A, q, r⟩ := F
  exact Go.st (fun t k => X.baloadBytes hx (j := j) (v := Value.int v) (by rw [eT]; exact A.1) (State.isArrayOf_alike hZ.alike A.2.1) A.2.2 (AI.inb q hj (List.getElem?_eq_some_iff.mp hv).1) (AI.at q hv) (g := mkF m pc Ls (.int j :: .ref a :: St)) rfl rfl hd t k) kk
theorem w_laload (X : Stand p l e R s m args below meth c T locs cells slots) (hx : p.tables.exec = Jvm.exec) (hZ : Z.Warmed39 s.vm) {a : Addr} {vs : List Int64} {j : Int32} {v : Int64} (eT : T.heap = h) (F : AJ Z h a vs) (hj : ¬ j < 0) (hv : vs[j.toNatClampNeg]? = some v) (hd : decode c.code pc = .ok (.laload, 1)) (hp : pc + 1 = pc')
    (kk : Go p e below s cm sm Q T (mkF m pc' Ls (Value.long v :: St))) : Go p e below s cm sm Q T (mkF m pc Ls (.int j :: .ref a :: St)) := by
  subst hp
  obtain ⟨cl, A, q, r⟩ := F
  exact Go.st (fun t k => X.laload hx (j := j) (v := Value.long v) (by rw [eT]; exact A.1) (State.isArrayOf_alike hZ.alike A.2.1) A.2.2 (AJ.inb q hj (List.getElem?_eq_some_iff.mp hv).1) (AJ.at q hv) (g := mkF m pc Ls (.int j :: .ref a :: St)) rfl rfl hd t k) kk
theorem w_iastore (X : Stand p l e R s m args below meth c T locs cells slots) (hx : p.tables.exec = Jvm.exec) (hZ : Z.Warmed39 s.vm) {a : Addr} {vs : List Int32} {j : Int32} {x : Int32} (eT : T.heap = h) (F : AI Z h a .int vs) (hj : ¬ j < 0) (hl : j.toNatClampNeg < vs.length) (hd : decode c.code pc = .ok (.iastore, 1)) (hp : pc + 1 = pc')
    (kk : ∀ (T' : State) (h' : Heap), Stand p l e R s m args below meth c T' (locs ++ [⟨a, j.toNatClampNeg⟩]) cells slots → T'.heap = h' → Wr h h' a j.toNatClampNeg (Value.int x) → AI Z h' a .int (vs.set j.toNatClampNeg x) → Go p e below s cm sm Q T' (mkF m pc' Ls St)) : Go p e below s cm sm Q T (mkF m pc Ls (Value.int x :: .int j :: .ref a :: St)) := by
  subst hp
  obtain ⟨cl, A, q, r⟩ := F
  obtain ⟨T1, h1, X1, e1, W1, st⟩ := RoadKit.stI X hx hZ eT A (j := j) (x := x) (AI.inb q hj hl) (g := mkF m pc Ls (Value.int x :: .int j :: .ref a :: St)) rfl rfl hd
  exact Go.st st (kk _ _ X1 e1 W1 (AI.wr ⟨cl, A, q, r⟩ W1))
theorem w_bastore (X : Stand p l e R s m args below meth c T locs cells slots) (hx : p.tables.exec = Jvm.exec) (hZ : Z.Warmed39 s.vm) {a : Addr} {vs : List Int32} {j : Int32} {x : Int32} (eT : T.heap = h) (F : AI Z h a .byte vs) (hj : ¬ j < 0) (hl : j.toNatClampNeg < vs.length) (hd : decode c.code pc = .ok (.bastore, 1)) (hp : pc + 1 = pc')
    (kk : ∀ (T' : State) (h' : Heap), Stand p l e R s m args below meth c T' (locs ++ [⟨a, j.toNatClampNeg⟩]) cells slots → T'.heap = h' → Wr h h' a j.toNatClampNeg (Value.int (nar .byte x)) → AI Z h' a .byte (vs.set j.toNatClampNeg (nar .byte x)) → Go p e below s cm sm Q T' (mkF m pc' Ls St)) : Go p e below s cm sm Q T (mkF m pc Ls (Value.int x :: .int j :: .ref a :: St)) := by
  subst hp
  obtain ⟨cl, A, q, r⟩ := F
  obtain ⟨T1, h1, X1, e1, W1, st⟩ := RoadKit.stB X hx hZ eT A (j := j) (x := x) (AI.inb q hj hl) (g := mkF m pc Ls (Value.int x :: .int j :: .ref a :: St)) rfl rfl hd
  exact Go.st st (kk _ _ X1 e1 W1 (AI.wr ⟨cl, A, q, r⟩ W1))
theorem w_lastore (X : Stand p l e R s m args below meth c T locs cells slots) (hx : p.tables.exec = Jvm.exec) (hZ : Z.Warmed39 s.vm) {a : Addr} {vs : List Int64} {j : Int32} {x : Int64} (eT : T.heap = h) (F : AJ Z h a vs) (hj : ¬ j < 0) (hl : j.toNatClampNeg < vs.length) (hd : decode c.code pc = .ok (.lastore, 1)) (hp : pc + 1 = pc')
    (kk : ∀ (T' : State) (h' : Heap), Stand p l e R s m args below meth c T' (locs ++ [⟨a, j.toNatClampNeg⟩]) cells slots → T'.heap = h' → Wr h h' a j.toNatClampNeg (Value.long x) → AJ Z h' a (vs.set j.toNatClampNeg x) → Go p e below s cm sm Q T' (mkF m pc' Ls St)) : Go p e below s cm sm Q T (mkF m pc Ls (Value.long x :: .int j :: .ref a :: St)) := by
  subst hp
  obtain ⟨cl, A, q, r⟩ := F
  obtain ⟨T1, h1, X1, e1, W1, st⟩ := RoadKit.stJ X hx hZ eT A (j := j) (x := x) (AJ.inb q hj hl) (g := mkF m pc Ls (Value.long x :: .int j :: .ref a :: St)) rfl rfl hd
  exact Go.st st (kk _ _ X1 e1 W1 (AJ.wr ⟨cl, A, q, r⟩ W1))
theorem w_alenI (X : Stand p l e R s m args below meth c T locs cells slots) (hx : p.tables.exec = Jvm.exec) (hZ : Z.Warmed39 s.vm) {a : Addr} {ty : FieldType} {vs : List Int32} {n : Int32} (eT : T.heap = h) (F : AI Z h a ty vs) (hn : vs.length.toInt32 = n) (hd : decode c.code pc = .ok (.arraylength, 1)) (hp : pc + 1 = pc')
    (kk : Go p e below s cm sm Q T (mkF m pc' Ls (.int n :: St))) : Go p e below s cm sm Q T (mkF m pc Ls (.ref a :: St)) := by
  subst hp hn
  obtain ⟨cl, A, q, r⟩ := F
  have hs := AI.sz q
  exact Go.st (fun t k => X.arraylength hx (by rw [eT]; exact A.1) (State.isArrayOf_alike hZ.alike A.2.1) (g := mkF m pc Ls (.ref a :: St)) rfl rfl hd t (by rw [hs]; exact k)) kk
theorem w_alenJ (X : Stand p l e R s m args below meth c T locs cells slots) (hx : p.tables.exec = Jvm.exec) (hZ : Z.Warmed39 s.vm) {a : Addr} {vs : List Int64} {n : Int32} (eT : T.heap = h) (F : AJ Z h a vs) (hn : vs.length.toInt32 = n) (hd : decode c.code pc = .ok (.arraylength, 1)) (hp : pc + 1 = pc')
    (kk : Go p e below s cm sm Q T (mkF m pc' Ls (.int n :: St))) : Go p e below s cm sm Q T (mkF m pc Ls (.ref a :: St)) := by
  subst hp hn
  obtain ⟨cl, A, q, r⟩ := F
  have hs := AJ.sz q
  exact Go.st (fun t k => X.arraylength hx (by rw [eT]; exact A.1) (State.isArrayOf_alike hZ.alike A.2.1) (g := mkF m pc Ls (.ref a :: St)) rfl rfl hd t (by rw [hs]; exact k)) kk
theorem w_newI (X : Stand p l e R s m args below meth c T locs cells slots) (hx : p.tables.exec = Jvm.exec) (hZ : Z.Warmed39 s.vm) {n : Int32} {cap : Nat} (eT : T.heap = h) (w : (Jvm.Cond.arrayClass .int).before a0 Z = true) (hn : ¬ n < 0) (hcap : n.toNatClampNeg ≤ cap) (hb : cap * 8 ≤ 536870912) (hc : cells + 1 ≤ R.cells) (hl : slots + cap ≤ R.slots) (hd : decode c.code pc = .ok (.newarray .int, 2)) (hp : pc + 2 = pc')
    (kk : ∀ (T' : State) (h' : Heap) (b : Addr), Stand p l e R s m args below meth c T' locs (cells + 1) (slots + cap) → T'.heap = h' → Ext h h' → b = h.size → AI Z h' b .int (List.replicate n.toNatClampNeg 0) → Go p e below s cm sm Q T' (mkF m pc' Ls (.ref b :: St))) : Go p e below s cm sm Q T (mkF m pc Ls (.int n :: St)) := by
  subst hp
  obtain ⟨T1, h1, k1, X1, e1, E1, A1, st⟩ := newP X hx hZ (aty := .int) w eT (g := mkF m pc Ls (.int n :: St)) rfl hd rfl hn (cap := cap) hcap hb hc hl
  exact Go.st st (kk _ _ _ X1 e1 E1 rfl (AI.new A1 rfl))
theorem w_newB (X : Stand p l e R s m args below meth c T locs cells slots) (hx : p.tables.exec = Jvm.exec) (hZ : Z.Warmed39 s.vm) {n : Int32} {cap : Nat} (eT : T.heap = h) (w : (Jvm.Cond.arrayClass .byte).before a0 Z = true) (hn : ¬ n < 0) (hcap : n.toNatClampNeg ≤ cap) (hb : cap * 8 ≤ 536870912) (hc : cells + 1 ≤ R.cells) (hl : slots + cap ≤ R.slots) (hd : decode c.code pc = .ok (.newarray .byte, 2)) (hp : pc + 2 = pc')
    (kk : ∀ (T' : State) (h' : Heap) (b : Addr), Stand p l e R s m args below meth c T' locs (cells + 1) (slots + cap) → T'.heap = h' → Ext h h' → b = h.size → AI Z h' b .byte (List.replicate n.toNatClampNeg 0) → Go p e below s cm sm Q T' (mkF m pc' Ls (.ref b :: St))) : Go p e below s cm sm Q T (mkF m pc Ls (.int n :: St)) := by
  subst hp
  obtain ⟨T1, h1, k1, X1, e1, E1, A1, st⟩ := newP X hx hZ (aty := .byte) w eT (g := mkF m pc Ls (.int n :: St)) rfl hd rfl hn (cap := cap) hcap hb hc hl
  exact Go.st st (kk _ _ _ X1 e1 E1 rfl (AI.new A1 rfl))
theorem w_newJ (X : Stand p l e R s m args below meth c T locs cells slots) (hx : p.tables.exec = Jvm.exec) (hZ : Z.Warmed39 s.vm) {n : Int32} {cap : Nat} (eT : T.heap = h) (w : (Jvm.Cond.arrayClass .long).before a0 Z = true) (hn : ¬ n < 0) (hcap : n.toNatClampNeg ≤ cap) (hb : cap * 8 ≤ 536870912) (hc : cells + 1 ≤ R.cells) (hl : slots + cap ≤ R.slots) (hd : decode c.code pc = .ok (.newarray .long, 2)) (hp : pc + 2 = pc')
    (kk : ∀ (T' : State) (h' : Heap) (b : Addr), Stand p l e R s m args below meth c T' locs (cells + 1) (slots + cap) → T'.heap = h' → Ext h h' → b = h.size → AJ Z h' b (List.replicate n.toNatClampNeg 0) → Go p e below s cm sm Q T' (mkF m pc' Ls (.ref b :: St))) : Go p e below s cm sm Q T (mkF m pc Ls (.int n :: St)) := by
  subst hp
  obtain ⟨T1, h1, k1, X1, e1, E1, A1, st⟩ := newP X hx hZ (aty := .long) w eT (g := mkF m pc Ls (.int n :: St)) rfl hd rfl hn (cap := cap) hcap hb hc hl
  exact Go.st st (kk _ _ _ X1 e1 E1 rfl (AJ.new A1))
theorem w_callP (X : Stand p l e R s m args below meth c T locs cells slots) (hx : p.tables.exec = Jvm.exec) (hZ : Z.Warmed39 s.vm) {own : String} {index : Nat} {y : MethodName} {bytes : ByteArray} {maxL : Nat} {ret : Option FieldType} {rm : Room} {W : Nat} {argsL rest : List Value} {Qc : Option Value → Heap → List Loc → Prop} {a : Addr} (hown : s.vm.findClass own = some m.cls) (eT : T.heap = h) (E : Exa Z h a y.cls) (C : Con l Z y bytes maxL ret rm (.ref a :: argsL).toArray h Qc) (w1 : (Jvm.Cond.methodLink own index y).before a0 Z = true) (w2 : (Jvm.Cond.instanceMethod y).before a0 Z = true) (ws : (Jvm.Cond.selects y.cls y y).before a0 Z = true) (wp : (Jvm.Cond.privateMethod y).before a0 Z = true) (w3 : (Jvm.Cond.initialized y.cls).before a0 Z = true) (w4 : (Jvm.Cond.code y bytes maxL ret).before a0 Z = true) (hy : y.cls ≠ "java/lang/invoke/MethodHandle" ∧ y.cls ≠ "java/lang/invoke/VarHandle")
    (hf : rm.frames + 1 ≤ R.frames) (hl : W + (maxL + 11) + rm.locals ≤ R.locals) (hc : cells + rm.cells ≤ R.cells) (hs : slots + rm.slots ≤ R.slots) (hsz : Ls.size = c.maxLocals) (hlen : ∀ sig, parseMethodDescriptor y.desc = some sig → argsL.length = sig.parameters.length) (hW : (rest.map fun v => v.category).sum ≤ W) (hst : St = argsL.reverse ++ .ref a :: rest) (hd : decode c.code pc = .ok (.invokevirtual index, 3)) (hp : pc + 3 = pc')
    (kk : ∀ (T' : State) (L : List Loc) (v : Option Value), Stand p l e R s m args below meth c T' (locs ++ L) (cells + rm.cells) (slots + rm.slots) → Qc v T'.heap L → Go p e below s cm sm Q T' (mkF m pc' Ls (v.toList ++ rest))) : Go p e below s cm sm Q T (mkF m pc Ls St) := by
  subst hp hst
  obtain ⟨cq, q1, q2⟩ := E.cell
  obtain ⟨v, _, ⟨T1, L1, k1, n1⟩, -, X1, ⟨Lc, hQ, l1, y1, z1⟩, st⟩ := X.privateBack hx (y := y) hown (mvT hZ w1) (mvT hZ w2) (mvT hZ ws) (Cond.privateMethod_at (mvP hZ wp (args := #[]))) (mvT hZ w4) hy (C.back (W := W) hZ w4 w3 hf hl) (g := mkF m pc Ls (argsL.reverse ++ .ref a :: rest)) rfl hsz (Steps.refl _) (a := a) (by rw [eT]; exact q1) q2 (argsL := argsL) (rest := rest) hlen rfl (by show 2 * 0 + _ ≤ _; rw [Nat.mul_zero, Nat.zero_add]; exact hW) hd (fun _ _ => ⟨rfl, eT, hc, hs⟩)
  dsimp only [Pt.U, Pt.locs, Pt.cells, Pt.slots] at X1 l1 y1 z1 st hQ
  subst l1 y1 z1
  exact Go.st (fun t q => st.trans q) (kk _ _ _ X1 hQ)
theorem w_ifnullNo (X : Stand p l e R s m args below meth c T locs cells slots) (hx : p.tables.exec = Jvm.exec) {o : Int} {b : Addr} (hd : decode c.code pc = .ok (.ifnull o, 3)) (hp : pc + 3 = pc') (kk : Go p e below s cm sm Q T (mkF m pc' Ls St)) : Go p e below s cm sm Q T (mkF m pc Ls (.ref b :: St)) := by
  subst hp
  exact Go.st (fun t q => XS.ifnullNo (g := mkF m pc Ls (.ref b :: St)) X.here hx rfl hd rfl q) kk
theorem own_len {n k : Nat} (h : n < 2147483648) (hk : k < 2147483648) (hc : ¬ n.toInt32 < k.toInt32) : k ≤ n := by
  rw [Int32.lt_iff_toInt_lt, len_toInt h, len_toInt hk] at hc
  omega
theorem own_len' {n k : Nat} (h : n < 2147483648) (hk : k < 2147483648) (hc : n.toInt32 < k.toInt32) : n < k := by
  rw [Int32.lt_iff_toInt_lt, len_toInt h, len_toInt hk] at hc
  omega
theorem own_getD {α : Type} {vs : List α} {j : Nat} {d : α} (h : j < vs.length) : vs[j]? = some (vs.getD j d) := by simp [h]
theorem own_nar0 : nar .boolean 0 = 0 := by decide
theorem own_nar1 : nar .boolean 1 = 1 := by decide
theorem w_up {c' s' : Nat} (X : Stand p l e R s m args below meth c T locs cells slots) (h1 : cells ≤ c') (h2 : slots ≤ s') : Stand p l e R s m args below meth c T locs c' s' :=
  ⟨X.admits, X.cas, X.clock, X.frames, X.room, X.hears, X.method, X.code, X.here, X.tail, X.warmed, X.limits, X.bytes, X.same.mono h1 h2⟩
end OwnKit
theorem pd_0 : parseMethodDescriptor "(I)Z" = some ⟨[.int], some .boolean⟩ := by decide +kernel
theorem d1_0 : decode prog_51_method_3_code 0 = .ok (.iload_n 0, 1) := by decide +kernel
theorem d1_1 : decode prog_51_method_3_code 1 = .ok (.bipush 32, 2) := by decide +kernel
theorem d1_3 : decode prog_51_method_3_code 3 = .ok (.if_icmp .ge 30, 3) := by decide +kernel
theorem d1_6 : decode prog_51_method_3_code 6 = .ok (.iload_n 0, 1) := by decide +kernel
theorem d1_7 : decode prog_51_method_3_code 7 = .ok (.bipush 9, 2) := by decide +kernel
theorem d1_9 : decode prog_51_method_3_code 9 = .ok (.if_icmp .eq 15, 3) := by decide +kernel
theorem d1_12 : decode prog_51_method_3_code 12 = .ok (.iload_n 0, 1) := by decide +kernel
theorem d1_13 : decode prog_51_method_3_code 13 = .ok (.bipush 10, 2) := by decide +kernel
theorem d1_15 : decode prog_51_method_3_code 15 = .ok (.if_icmp .eq 9, 3) := by decide +kernel
theorem d1_18 : decode prog_51_method_3_code 18 = .ok (.iload_n 0, 1) := by decide +kernel
theorem d1_19 : decode prog_51_method_3_code 19 = .ok (.bipush 13, 2) := by decide +kernel
theorem d1_21 : decode prog_51_method_3_code 21 = .ok (.if_icmp .ne 7, 3) := by decide +kernel
theorem d1_24 : decode prog_51_method_3_code 24 = .ok (.iconst 1, 1) := by decide +kernel
theorem d1_25 : decode prog_51_method_3_code 25 = .ok (.goto 4, 3) := by decide +kernel
theorem d1_28 : decode prog_51_method_3_code 28 = .ok (.iconst 0, 1) := by decide +kernel
theorem d1_29 : decode prog_51_method_3_code 29 = .ok (.istore_n 1, 1) := by decide +kernel
theorem d1_30 : decode prog_51_method_3_code 30 = .ok (.goto 39, 3) := by decide +kernel
theorem d1_33 : decode prog_51_method_3_code 33 = .ok (.iload_n 0, 1) := by decide +kernel
theorem d1_34 : decode prog_51_method_3_code 34 = .ok (.ldc 7, 2) := by decide +kernel
theorem d1_36 : decode prog_51_method_3_code 36 = .ok (.if_icmp .le 27, 3) := by decide +kernel
theorem d1_39 : decode prog_51_method_3_code 39 = .ok (.iload_n 0, 1) := by decide +kernel
theorem d1_40 : decode prog_51_method_3_code 40 = .ok (.ldc 8, 2) := by decide +kernel
theorem d1_42 : decode prog_51_method_3_code 42 = .ok (.if_icmp .lt 9, 3) := by decide +kernel
theorem d1_45 : decode prog_51_method_3_code 45 = .ok (.iload_n 0, 1) := by decide +kernel
theorem d1_46 : decode prog_51_method_3_code 46 = .ok (.ldc 9, 2) := by decide +kernel
theorem d1_48 : decode prog_51_method_3_code 48 = .ok (.if_icmp .le 15, 3) := by decide +kernel
theorem d1_51 : decode prog_51_method_3_code 51 = .ok (.iload_n 0, 1) := by decide +kernel
theorem d1_52 : decode prog_51_method_3_code 52 = .ok (.ldc 10, 2) := by decide +kernel
theorem d1_54 : decode prog_51_method_3_code 54 = .ok (.if_icmp .lt 13, 3) := by decide +kernel
theorem d1_57 : decode prog_51_method_3_code 57 = .ok (.iload_n 0, 1) := by decide +kernel
theorem d1_58 : decode prog_51_method_3_code 58 = .ok (.ldc 13, 2) := by decide +kernel
theorem d1_60 : decode prog_51_method_3_code 60 = .ok (.if_icmp .gt 7, 3) := by decide +kernel
theorem d1_63 : decode prog_51_method_3_code 63 = .ok (.iconst 1, 1) := by decide +kernel
theorem d1_64 : decode prog_51_method_3_code 64 = .ok (.goto 4, 3) := by decide +kernel
theorem d1_67 : decode prog_51_method_3_code 67 = .ok (.iconst 0, 1) := by decide +kernel
theorem d1_68 : decode prog_51_method_3_code 68 = .ok (.istore_n 1, 1) := by decide +kernel
theorem d1_69 : decode prog_51_method_3_code 69 = .ok (.iload_n 1, 1) := by decide +kernel
theorem d1_70 : decode prog_51_method_3_code 70 = .ok (.ireturn, 1) := by decide +kernel
def K1_51 (x0 : Int32) : Int32 :=
  (if x0 < (65536 : Int32) then (0 : Int32)
  else (if (1114111 : Int32) < x0 then (0 : Int32)
   else (1 : Int32)))
set_option maxRecDepth 65536 in
set_option maxHeartbeats 4000000 in
theorem bk1_51 {p : Program} {l : Launch} {e : Env} {s : State} {m : MethodId} {args : Array Value} {below : List Frame} {meth : Method} {c : Code} {T : State} {locs : List Loc} {Z : State} {a0 : Array Value} {h0 : Heap} {n0 : Nat} (X : Stand p l e ({ frames := 0, cells := 0, slots := 0, locals := 0 } : Room) s m args below meth c T locs 0 0) (hx : p.tables.exec = Jvm.exec) (hZ : Z.Warmed39 s.vm) (hw : ∀ d ∈ tables_1, d.before a0 Z = true) (hby : c.code = prog_51_method_3_code) (hml : c.maxLocals = 2) (hown : s.vm.findClass "com/example/corelint/corelint/XmlChars" = some m.cls) (hret : meth.sig.returnType = (some .boolean)) (hlk : meth.locks = false) (e0 : T.heap = h0) (N0 : Fr n0 locs) (x0 : Int32) :
    Go p e below s 0 0 (QP (some (.int (K1_51 x0))) h0 n0) T (mkF m 51 #[.val (.int x0), .unset] []) := by
  rw [K1_51]
  refine w_iloadN X hx (hb hby d1_51) (pc' := 52) rfl rfl ?_
  refine w_ldc X hx hZ hown (hw _ (List.mem_of_getElem? (i := 23) rfl)) (hb hby d1_52) (pc' := 54) rfl ?_
  refine w_icmp_lt X hx (hb hby d1_54) (pf := 57) (pt := 67) rfl (by decide) (by decide) (fun hc54 => ?_) (fun hc54 => ?_)
  · rw [if_pos hc54]
    refine w_iconst (v := 0) X hx (hb hby d1_67) (pc' := 68) rfl rfl ?_
    refine w_istoreN (Ls' := #[.val (.int x0), .val (.int (0 : Int32))]) X hx (hb hby d1_68) (pc' := 69) rfl rfl ?_
    refine w_iloadN X hx (hb hby d1_69) (pc' := 70) rfl rfl ?_
    exact w_retZ X hx hret hlk (hb hby d1_70) (by decide) (by decide) ⟨rfl, N0, e0⟩
  · rw [if_neg hc54]
    refine w_iloadN X hx (hb hby d1_57) (pc' := 58) rfl rfl ?_
    refine w_ldc X hx hZ hown (hw _ (List.mem_of_getElem? (i := 24) rfl)) (hb hby d1_58) (pc' := 60) rfl ?_
    refine w_icmp_gt X hx (hb hby d1_60) (pf := 63) (pt := 67) rfl (by decide) (by decide) (fun hc60 => ?_) (fun hc60 => ?_)
    · rw [if_pos hc60]
      refine w_iconst (v := 0) X hx (hb hby d1_67) (pc' := 68) rfl rfl ?_
      refine w_istoreN (Ls' := #[.val (.int x0), .val (.int (0 : Int32))]) X hx (hb hby d1_68) (pc' := 69) rfl rfl ?_
      refine w_iloadN X hx (hb hby d1_69) (pc' := 70) rfl rfl ?_
      exact w_retZ X hx hret hlk (hb hby d1_70) (by decide) (by decide) ⟨rfl, N0, e0⟩
    · rw [if_neg hc60]
      refine w_iconst (v := 1) X hx (hb hby d1_63) (pc' := 64) rfl rfl ?_
      refine w_goto X hx (hb hby d1_64) (pc' := 68) (by decide) (by decide) ?_
      refine w_istoreN (Ls' := #[.val (.int x0), .val (.int (1 : Int32))]) X hx (hb hby d1_68) (pc' := 69) rfl rfl ?_
      refine w_iloadN X hx (hb hby d1_69) (pc' := 70) rfl rfl ?_
      exact w_retZ X hx hret hlk (hb hby d1_70) (by decide) (by decide) ⟨rfl, N0, e0⟩
def K1_0 (x0 : Int32) : Int32 :=
  (if x0 < (32 : Int32) then (if x0 = (9 : Int32) then (1 : Int32)
   else (if x0 = (10 : Int32) then (1 : Int32)
    else (if x0 = (13 : Int32) then (1 : Int32)
     else (0 : Int32))))
  else (if (55295 : Int32) < x0 then (if x0 < (57344 : Int32) then (K1_51 x0)
    else (if (65533 : Int32) < x0 then (K1_51 x0)
     else (1 : Int32)))
   else (1 : Int32)))
set_option maxRecDepth 65536 in
set_option maxHeartbeats 4000000 in
theorem bk1_0 {p : Program} {l : Launch} {e : Env} {s : State} {m : MethodId} {args : Array Value} {below : List Frame} {meth : Method} {c : Code} {T : State} {locs : List Loc} {Z : State} {a0 : Array Value} {h0 : Heap} {n0 : Nat} (X : Stand p l e ({ frames := 0, cells := 0, slots := 0, locals := 0 } : Room) s m args below meth c T locs 0 0) (hx : p.tables.exec = Jvm.exec) (hZ : Z.Warmed39 s.vm) (hw : ∀ d ∈ tables_1, d.before a0 Z = true) (hby : c.code = prog_51_method_3_code) (hml : c.maxLocals = 2) (hown : s.vm.findClass "com/example/corelint/corelint/XmlChars" = some m.cls) (hret : meth.sig.returnType = (some .boolean)) (hlk : meth.locks = false) (e0 : T.heap = h0) (N0 : Fr n0 locs) (x0 : Int32) :
    Go p e below s 0 0 (QP (some (.int (K1_0 x0))) h0 n0) T (mkF m 0 #[.val (.int x0), .unset] []) := by
  rw [K1_0]
  refine w_iloadN X hx (hb hby d1_0) (pc' := 1) rfl rfl ?_
  refine w_bipush (v := 32) X hx (hb hby d1_1) (pc' := 3) rfl rfl ?_
  refine w_icmp_ge X hx (hb hby d1_3) (pf := 6) (pt := 33) rfl (by decide) (by decide) (fun hc3 => ?_) (fun hc3 => ?_)
  · rw [if_neg hc3]
    refine w_iloadN X hx (hb hby d1_33) (pc' := 34) rfl rfl ?_
    refine w_ldc X hx hZ hown (hw _ (List.mem_of_getElem? (i := 20) rfl)) (hb hby d1_34) (pc' := 36) rfl ?_
    refine w_icmp_le X hx (hb hby d1_36) (pf := 39) (pt := 63) rfl (by decide) (by decide) (fun hc36 => ?_) (fun hc36 => ?_)
    · rw [if_neg hc36]
      refine w_iconst (v := 1) X hx (hb hby d1_63) (pc' := 64) rfl rfl ?_
      refine w_goto X hx (hb hby d1_64) (pc' := 68) (by decide) (by decide) ?_
      refine w_istoreN (Ls' := #[.val (.int x0), .val (.int (1 : Int32))]) X hx (hb hby d1_68) (pc' := 69) rfl rfl ?_
      refine w_iloadN X hx (hb hby d1_69) (pc' := 70) rfl rfl ?_
      exact w_retZ X hx hret hlk (hb hby d1_70) (by decide) (by decide) ⟨rfl, N0, e0⟩
    · rw [if_pos hc36]
      refine w_iloadN X hx (hb hby d1_39) (pc' := 40) rfl rfl ?_
      refine w_ldc X hx hZ hown (hw _ (List.mem_of_getElem? (i := 21) rfl)) (hb hby d1_40) (pc' := 42) rfl ?_
      refine w_icmp_lt X hx (hb hby d1_42) (pf := 45) (pt := 51) rfl (by decide) (by decide) (fun hc42 => ?_) (fun hc42 => ?_)
      · rw [if_pos hc42]
        exact bk1_51 X hx hZ hw hby hml hown hret hlk e0 N0 x0
      · rw [if_neg hc42]
        refine w_iloadN X hx (hb hby d1_45) (pc' := 46) rfl rfl ?_
        refine w_ldc X hx hZ hown (hw _ (List.mem_of_getElem? (i := 22) rfl)) (hb hby d1_46) (pc' := 48) rfl ?_
        refine w_icmp_le X hx (hb hby d1_48) (pf := 51) (pt := 63) rfl (by decide) (by decide) (fun hc48 => ?_) (fun hc48 => ?_)
        · rw [if_neg hc48]
          refine w_iconst (v := 1) X hx (hb hby d1_63) (pc' := 64) rfl rfl ?_
          refine w_goto X hx (hb hby d1_64) (pc' := 68) (by decide) (by decide) ?_
          refine w_istoreN (Ls' := #[.val (.int x0), .val (.int (1 : Int32))]) X hx (hb hby d1_68) (pc' := 69) rfl rfl ?_
          refine w_iloadN X hx (hb hby d1_69) (pc' := 70) rfl rfl ?_
          exact w_retZ X hx hret hlk (hb hby d1_70) (by decide) (by decide) ⟨rfl, N0, e0⟩
        · rw [if_pos hc48]
          exact bk1_51 X hx hZ hw hby hml hown hret hlk e0 N0 x0
  · rw [if_pos hc3]
    refine w_iloadN X hx (hb hby d1_6) (pc' := 7) rfl rfl ?_
    refine w_bipush (v := 9) X hx (hb hby d1_7) (pc' := 9) rfl rfl ?_
    refine w_icmp_eq X hx (hb hby d1_9) (pf := 12) (pt := 24) rfl (by decide) (by decide) (fun hc9 => ?_) (fun hc9 => ?_)
    · rw [if_pos hc9]
      refine w_iconst (v := 1) X hx (hb hby d1_24) (pc' := 25) rfl rfl ?_
      refine w_goto X hx (hb hby d1_25) (pc' := 29) (by decide) (by decide) ?_
      refine w_istoreN (Ls' := #[.val (.int x0), .val (.int (1 : Int32))]) X hx (hb hby d1_29) (pc' := 30) rfl rfl ?_
      refine w_goto X hx (hb hby d1_30) (pc' := 69) (by decide) (by decide) ?_
      refine w_iloadN X hx (hb hby d1_69) (pc' := 70) rfl rfl ?_
      exact w_retZ X hx hret hlk (hb hby d1_70) (by decide) (by decide) ⟨rfl, N0, e0⟩
    · rw [if_neg hc9]
      refine w_iloadN X hx (hb hby d1_12) (pc' := 13) rfl rfl ?_
      refine w_bipush (v := 10) X hx (hb hby d1_13) (pc' := 15) rfl rfl ?_
      refine w_icmp_eq X hx (hb hby d1_15) (pf := 18) (pt := 24) rfl (by decide) (by decide) (fun hc15 => ?_) (fun hc15 => ?_)
      · rw [if_pos hc15]
        refine w_iconst (v := 1) X hx (hb hby d1_24) (pc' := 25) rfl rfl ?_
        refine w_goto X hx (hb hby d1_25) (pc' := 29) (by decide) (by decide) ?_
        refine w_istoreN (Ls' := #[.val (.int x0), .val (.int (1 : Int32))]) X hx (hb hby d1_29) (pc' := 30) rfl rfl ?_
        refine w_goto X hx (hb hby d1_30) (pc' := 69) (by decide) (by decide) ?_
        refine w_iloadN X hx (hb hby d1_69) (pc' := 70) rfl rfl ?_
        exact w_retZ X hx hret hlk (hb hby d1_70) (by decide) (by decide) ⟨rfl, N0, e0⟩
      · rw [if_neg hc15]
        refine w_iloadN X hx (hb hby d1_18) (pc' := 19) rfl rfl ?_
        refine w_bipush (v := 13) X hx (hb hby d1_19) (pc' := 21) rfl rfl ?_
        refine w_icmp_ne X hx (hb hby d1_21) (pf := 24) (pt := 28) rfl (by decide) (by decide) (fun hc21 => ?_) (fun hc21 => ?_)
        · rw [if_neg hc21]
          refine w_iconst (v := 0) X hx (hb hby d1_28) (pc' := 29) rfl rfl ?_
          refine w_istoreN (Ls' := #[.val (.int x0), .val (.int (0 : Int32))]) X hx (hb hby d1_29) (pc' := 30) rfl rfl ?_
          refine w_goto X hx (hb hby d1_30) (pc' := 69) (by decide) (by decide) ?_
          refine w_iloadN X hx (hb hby d1_69) (pc' := 70) rfl rfl ?_
          exact w_retZ X hx hret hlk (hb hby d1_70) (by decide) (by decide) ⟨rfl, N0, e0⟩
        · rw [if_pos hc21]
          refine w_iconst (v := 1) X hx (hb hby d1_24) (pc' := 25) rfl rfl ?_
          refine w_goto X hx (hb hby d1_25) (pc' := 29) (by decide) (by decide) ?_
          refine w_istoreN (Ls' := #[.val (.int x0), .val (.int (1 : Int32))]) X hx (hb hby d1_29) (pc' := 30) rfl rfl ?_
          refine w_goto X hx (hb hby d1_30) (pc' := 69) (by decide) (by decide) ?_
          refine w_iloadN X hx (hb hby d1_69) (pc' := 70) rfl rfl ?_
          exact w_retZ X hx hret hlk (hb hby d1_70) (by decide) (by decide) ⟨rfl, N0, e0⟩
theorem ef_1 (m : MethodId) (x0 : Int32) : entryFrame m #[(.int x0)] 2 = mkF m 0 #[.val (.int x0), .unset] [] := by first | (simp [entryFrame, mkF, argsToLocals, Value.category]; done) | rfl
theorem rm1 (l : Launch) (Z : State) (a0 : Array Value) (hw : ∀ d ∈ tables_1, d.before a0 Z = true) (x0 : Int32) (h0 : Heap) (n0 : Nat) :
    Con l Z (⟨"com/example/corelint/corelint/XmlChars", "isChar", "(I)Z"⟩ : MethodName) prog_51_method_3_code 2 (some .boolean) ({ frames := 0, cells := 0, slots := 0, locals := 0 } : Room) #[(.int x0)] h0 (QP (some (.int (K1_0 x0))) h0 n0) := by
  refine Con.of (plainFor_of_name (by first | (simp [plainName, overriddenIn]; done) | decide +kernel)) ?_
  intro p e s m below meth c T X hx hZ hby hml hown hnm hret hlk e0
  rw [ef_1]
  exact bk1_0 X hx hZ hw hby hml hown hret hlk e0 (Fr.nil n0) x0
theorem d2_0 : decode method_2_code 0 = .ok (.iload_n 0, 1) := by decide +kernel
theorem d2_1 : decode method_2_code 1 = .ok (.ifCond .lt 13, 3) := by decide +kernel
theorem d2_4 : decode method_2_code 4 = .ok (.iload_n 0, 1) := by decide +kernel
theorem d2_5 : decode method_2_code 5 = .ok (.ldc 7, 2) := by decide +kernel
theorem d2_7 : decode method_2_code 7 = .ok (.if_icmp .gt 7, 3) := by decide +kernel
theorem d2_10 : decode method_2_code 10 = .ok (.iconst 1, 1) := by decide +kernel
theorem d2_11 : decode method_2_code 11 = .ok (.goto 4, 3) := by decide +kernel
theorem d2_14 : decode method_2_code 14 = .ok (.iconst 0, 1) := by decide +kernel
theorem d2_15 : decode method_2_code 15 = .ok (.istore_n 1, 1) := by decide +kernel
theorem d2_16 : decode method_2_code 16 = .ok (.iload_n 0, 1) := by decide +kernel
theorem d2_17 : decode method_2_code 17 = .ok (.bipush 32, 2) := by decide +kernel
theorem d2_19 : decode method_2_code 19 = .ok (.if_icmp .ge 25, 3) := by decide +kernel
theorem d2_22 : decode method_2_code 22 = .ok (.iload_n 0, 1) := by decide +kernel
theorem d2_23 : decode method_2_code 23 = .ok (.bipush 9, 2) := by decide +kernel
theorem d2_25 : decode method_2_code 25 = .ok (.if_icmp .eq 19, 3) := by decide +kernel
theorem d2_28 : decode method_2_code 28 = .ok (.iload_n 0, 1) := by decide +kernel
theorem d2_29 : decode method_2_code 29 = .ok (.bipush 10, 2) := by decide +kernel
theorem d2_31 : decode method_2_code 31 = .ok (.if_icmp .eq 13, 3) := by decide +kernel
theorem d2_34 : decode method_2_code 34 = .ok (.iload_n 0, 1) := by decide +kernel
theorem d2_35 : decode method_2_code 35 = .ok (.bipush 13, 2) := by decide +kernel
theorem d2_37 : decode method_2_code 37 = .ok (.if_icmp .eq 7, 3) := by decide +kernel
theorem d2_40 : decode method_2_code 40 = .ok (.iconst 1, 1) := by decide +kernel
theorem d2_41 : decode method_2_code 41 = .ok (.goto 4, 3) := by decide +kernel
theorem d2_44 : decode method_2_code 44 = .ok (.iconst 0, 1) := by decide +kernel
theorem d2_45 : decode method_2_code 45 = .ok (.istore_n 2, 1) := by decide +kernel
theorem d2_46 : decode method_2_code 46 = .ok (.iload_n 0, 1) := by decide +kernel
theorem d2_47 : decode method_2_code 47 = .ok (.ldc 8, 2) := by decide +kernel
theorem d2_49 : decode method_2_code 49 = .ok (.if_icmp .lt 13, 3) := by decide +kernel
theorem d2_52 : decode method_2_code 52 = .ok (.iload_n 0, 1) := by decide +kernel
theorem d2_53 : decode method_2_code 53 = .ok (.ldc 9, 2) := by decide +kernel
theorem d2_55 : decode method_2_code 55 = .ok (.if_icmp .gt 7, 3) := by decide +kernel
theorem d2_58 : decode method_2_code 58 = .ok (.iconst 1, 1) := by decide +kernel
theorem d2_59 : decode method_2_code 59 = .ok (.goto 4, 3) := by decide +kernel
theorem d2_62 : decode method_2_code 62 = .ok (.iconst 0, 1) := by decide +kernel
theorem d2_63 : decode method_2_code 63 = .ok (.istore_n 3, 1) := by decide +kernel
theorem d2_64 : decode method_2_code 64 = .ok (.iload_n 0, 1) := by decide +kernel
theorem d2_65 : decode method_2_code 65 = .ok (.ldc 10, 2) := by decide +kernel
theorem d2_67 : decode method_2_code 67 = .ok (.if_icmp .eq 9, 3) := by decide +kernel
theorem d2_70 : decode method_2_code 70 = .ok (.iload_n 0, 1) := by decide +kernel
theorem d2_71 : decode method_2_code 71 = .ok (.ldc 11, 2) := by decide +kernel
theorem d2_73 : decode method_2_code 73 = .ok (.if_icmp .ne 7, 3) := by decide +kernel
theorem d2_76 : decode method_2_code 76 = .ok (.iconst 1, 1) := by decide +kernel
theorem d2_77 : decode method_2_code 77 = .ok (.goto 4, 3) := by decide +kernel
theorem d2_80 : decode method_2_code 80 = .ok (.iconst 0, 1) := by decide +kernel
theorem d2_81 : decode method_2_code 81 = .ok (.istore 4, 2) := by decide +kernel
theorem d2_83 : decode method_2_code 83 = .ok (.iload_n 1, 1) := by decide +kernel
theorem d2_84 : decode method_2_code 84 = .ok (.ifCond .eq 20, 3) := by decide +kernel
theorem d2_87 : decode method_2_code 87 = .ok (.iload_n 2, 1) := by decide +kernel
theorem d2_88 : decode method_2_code 88 = .ok (.ifCond .ne 16, 3) := by decide +kernel
theorem d2_91 : decode method_2_code 91 = .ok (.iload_n 3, 1) := by decide +kernel
theorem d2_92 : decode method_2_code 92 = .ok (.ifCond .ne 12, 3) := by decide +kernel
theorem d2_95 : decode method_2_code 95 = .ok (.iload 4, 2) := by decide +kernel
theorem d2_97 : decode method_2_code 97 = .ok (.ifCond .ne 7, 3) := by decide +kernel
theorem d2_100 : decode method_2_code 100 = .ok (.iconst 1, 1) := by decide +kernel
theorem d2_101 : decode method_2_code 101 = .ok (.goto 4, 3) := by decide +kernel
theorem d2_104 : decode method_2_code 104 = .ok (.iconst 0, 1) := by decide +kernel
theorem d2_105 : decode method_2_code 105 = .ok (.ireturn, 1) := by decide +kernel
def K2_81 (x1 : Int32) (x2 : Int32) (x3 : Int32) (y0 : Int32) : Int32 :=
  (if x1 = (0 : Int32) then (0 : Int32)
  else (if x2 = (0 : Int32) then (if x3 = (0 : Int32) then (if y0 = (0 : Int32) then (1 : Int32)
     else (0 : Int32))
    else (0 : Int32))
   else (0 : Int32)))
set_option maxRecDepth 65536 in
set_option maxHeartbeats 4000000 in
theorem bk2_81 {p : Program} {l : Launch} {e : Env} {s : State} {m : MethodId} {args : Array Value} {below : List Frame} {meth : Method} {c : Code} {T : State} {locs : List Loc} {Z : State} {a0 : Array Value} {h0 : Heap} {n0 : Nat} (X : Stand p l e ({ frames := 0, cells := 0, slots := 0, locals := 0 } : Room) s m args below meth c T locs 0 0) (hx : p.tables.exec = Jvm.exec) (hZ : Z.Warmed39 s.vm) (hw : ∀ d ∈ tables_1, d.before a0 Z = true) (hby : c.code = method_2_code) (hml : c.maxLocals = 5) (hown : s.vm.findClass "com/example/corelint/corelint/XmlCharsIsCharPinLaw" = some m.cls) (hret : meth.sig.returnType = (some .boolean)) (hlk : meth.locks = false) (e0 : T.heap = h0) (N0 : Fr n0 locs) (x0 : Int32) (x1 : Int32) (x2 : Int32) (x3 : Int32) (y0 : Int32) :
    Go p e below s 0 0 (QP (some (.int (K2_81 x1 x2 x3 y0))) h0 n0) T (mkF m 81 #[.val (.int x0), .val (.int x1), .val (.int x2), .val (.int x3), .unset] [(.int y0)]) := by
  rw [K2_81]
  refine w_istore (Ls' := #[.val (.int x0), .val (.int x1), .val (.int x2), .val (.int x3), .val (.int y0)]) X hx (hb hby d2_81) (pc' := 83) rfl rfl ?_
  refine w_iloadN X hx (hb hby d2_83) (pc' := 84) rfl rfl ?_
  refine w_if_eq X hx (hb hby d2_84) (pf := 87) (pt := 104) rfl (by decide) (by decide) (fun hc84 => ?_) (fun hc84 => ?_)
  · rw [if_pos hc84]
    refine w_iconst (v := 0) X hx (hb hby d2_104) (pc' := 105) rfl rfl ?_
    exact w_retZ X hx hret hlk (hb hby d2_105) (by decide) (by decide) ⟨rfl, N0, e0⟩
  · rw [if_neg hc84]
    refine w_iloadN X hx (hb hby d2_87) (pc' := 88) rfl rfl ?_
    refine w_if_ne X hx (hb hby d2_88) (pf := 91) (pt := 104) rfl (by decide) (by decide) (fun hc88 => ?_) (fun hc88 => ?_)
    · rw [if_neg hc88]
      refine w_iconst (v := 0) X hx (hb hby d2_104) (pc' := 105) rfl rfl ?_
      exact w_retZ X hx hret hlk (hb hby d2_105) (by decide) (by decide) ⟨rfl, N0, e0⟩
    · rw [if_pos hc88]
      refine w_iloadN X hx (hb hby d2_91) (pc' := 92) rfl rfl ?_
      refine w_if_ne X hx (hb hby d2_92) (pf := 95) (pt := 104) rfl (by decide) (by decide) (fun hc92 => ?_) (fun hc92 => ?_)
      · rw [if_neg hc92]
        refine w_iconst (v := 0) X hx (hb hby d2_104) (pc' := 105) rfl rfl ?_
        exact w_retZ X hx hret hlk (hb hby d2_105) (by decide) (by decide) ⟨rfl, N0, e0⟩
      · rw [if_pos hc92]
        refine w_iload X hx (hb hby d2_95) (pc' := 97) rfl rfl ?_
        refine w_if_ne X hx (hb hby d2_97) (pf := 100) (pt := 104) rfl (by decide) (by decide) (fun hc97 => ?_) (fun hc97 => ?_)
        · rw [if_neg hc97]
          refine w_iconst (v := 0) X hx (hb hby d2_104) (pc' := 105) rfl rfl ?_
          exact w_retZ X hx hret hlk (hb hby d2_105) (by decide) (by decide) ⟨rfl, N0, e0⟩
        · rw [if_pos hc97]
          refine w_iconst (v := 1) X hx (hb hby d2_100) (pc' := 101) rfl rfl ?_
          refine w_goto X hx (hb hby d2_101) (pc' := 105) (by decide) (by decide) ?_
          exact w_retZ X hx hret hlk (hb hby d2_105) (by decide) (by decide) ⟨rfl, N0, e0⟩
def K2_63 (x0 : Int32) (x1 : Int32) (x2 : Int32) (y0 : Int32) : Int32 :=
  (if x0 = (65534 : Int32) then (K2_81 x1 x2 y0 (1 : Int32))
  else (if x0 = (65535 : Int32) then (K2_81 x1 x2 y0 (1 : Int32))
   else (K2_81 x1 x2 y0 (0 : Int32))))
set_option maxRecDepth 65536 in
set_option maxHeartbeats 4000000 in
theorem bk2_63 {p : Program} {l : Launch} {e : Env} {s : State} {m : MethodId} {args : Array Value} {below : List Frame} {meth : Method} {c : Code} {T : State} {locs : List Loc} {Z : State} {a0 : Array Value} {h0 : Heap} {n0 : Nat} (X : Stand p l e ({ frames := 0, cells := 0, slots := 0, locals := 0 } : Room) s m args below meth c T locs 0 0) (hx : p.tables.exec = Jvm.exec) (hZ : Z.Warmed39 s.vm) (hw : ∀ d ∈ tables_1, d.before a0 Z = true) (hby : c.code = method_2_code) (hml : c.maxLocals = 5) (hown : s.vm.findClass "com/example/corelint/corelint/XmlCharsIsCharPinLaw" = some m.cls) (hret : meth.sig.returnType = (some .boolean)) (hlk : meth.locks = false) (e0 : T.heap = h0) (N0 : Fr n0 locs) (x0 : Int32) (x1 : Int32) (x2 : Int32) (y0 : Int32) :
    Go p e below s 0 0 (QP (some (.int (K2_63 x0 x1 x2 y0))) h0 n0) T (mkF m 63 #[.val (.int x0), .val (.int x1), .val (.int x2), .unset, .unset] [(.int y0)]) := by
  rw [K2_63]
  refine w_istoreN (Ls' := #[.val (.int x0), .val (.int x1), .val (.int x2), .val (.int y0), .unset]) X hx (hb hby d2_63) (pc' := 64) rfl rfl ?_
  refine w_iloadN X hx (hb hby d2_64) (pc' := 65) rfl rfl ?_
  refine w_ldc X hx hZ hown (hw _ (List.mem_of_getElem? (i := 6) rfl)) (hb hby d2_65) (pc' := 67) rfl ?_
  refine w_icmp_eq X hx (hb hby d2_67) (pf := 70) (pt := 76) rfl (by decide) (by decide) (fun hc67 => ?_) (fun hc67 => ?_)
  · rw [if_pos hc67]
    refine w_iconst (v := 1) X hx (hb hby d2_76) (pc' := 77) rfl rfl ?_
    refine w_goto X hx (hb hby d2_77) (pc' := 81) (by decide) (by decide) ?_
    exact bk2_81 X hx hZ hw hby hml hown hret hlk e0 N0 x0 x1 x2 y0 (1 : Int32)
  · rw [if_neg hc67]
    refine w_iloadN X hx (hb hby d2_70) (pc' := 71) rfl rfl ?_
    refine w_ldc X hx hZ hown (hw _ (List.mem_of_getElem? (i := 19) rfl)) (hb hby d2_71) (pc' := 73) rfl ?_
    refine w_icmp_ne X hx (hb hby d2_73) (pf := 76) (pt := 80) rfl (by decide) (by decide) (fun hc73 => ?_) (fun hc73 => ?_)
    · rw [if_neg hc73]
      refine w_iconst (v := 0) X hx (hb hby d2_80) (pc' := 81) rfl rfl ?_
      exact bk2_81 X hx hZ hw hby hml hown hret hlk e0 N0 x0 x1 x2 y0 (0 : Int32)
    · rw [if_pos hc73]
      refine w_iconst (v := 1) X hx (hb hby d2_76) (pc' := 77) rfl rfl ?_
      refine w_goto X hx (hb hby d2_77) (pc' := 81) (by decide) (by decide) ?_
      exact bk2_81 X hx hZ hw hby hml hown hret hlk e0 N0 x0 x1 x2 y0 (1 : Int32)
def K2_45 (x0 : Int32) (x1 : Int32) (y0 : Int32) : Int32 :=
  (if x0 < (55296 : Int32) then (K2_63 x0 x1 y0 (0 : Int32))
  else (if (57343 : Int32) < x0 then (K2_63 x0 x1 y0 (0 : Int32))
   else (K2_63 x0 x1 y0 (1 : Int32))))
set_option maxRecDepth 65536 in
set_option maxHeartbeats 4000000 in
theorem bk2_45 {p : Program} {l : Launch} {e : Env} {s : State} {m : MethodId} {args : Array Value} {below : List Frame} {meth : Method} {c : Code} {T : State} {locs : List Loc} {Z : State} {a0 : Array Value} {h0 : Heap} {n0 : Nat} (X : Stand p l e ({ frames := 0, cells := 0, slots := 0, locals := 0 } : Room) s m args below meth c T locs 0 0) (hx : p.tables.exec = Jvm.exec) (hZ : Z.Warmed39 s.vm) (hw : ∀ d ∈ tables_1, d.before a0 Z = true) (hby : c.code = method_2_code) (hml : c.maxLocals = 5) (hown : s.vm.findClass "com/example/corelint/corelint/XmlCharsIsCharPinLaw" = some m.cls) (hret : meth.sig.returnType = (some .boolean)) (hlk : meth.locks = false) (e0 : T.heap = h0) (N0 : Fr n0 locs) (x0 : Int32) (x1 : Int32) (y0 : Int32) :
    Go p e below s 0 0 (QP (some (.int (K2_45 x0 x1 y0))) h0 n0) T (mkF m 45 #[.val (.int x0), .val (.int x1), .unset, .unset, .unset] [(.int y0)]) := by
  rw [K2_45]
  refine w_istoreN (Ls' := #[.val (.int x0), .val (.int x1), .val (.int y0), .unset, .unset]) X hx (hb hby d2_45) (pc' := 46) rfl rfl ?_
  refine w_iloadN X hx (hb hby d2_46) (pc' := 47) rfl rfl ?_
  refine w_ldc X hx hZ hown (hw _ (List.mem_of_getElem? (i := 2) rfl)) (hb hby d2_47) (pc' := 49) rfl ?_
  refine w_icmp_lt X hx (hb hby d2_49) (pf := 52) (pt := 62) rfl (by decide) (by decide) (fun hc49 => ?_) (fun hc49 => ?_)
  · rw [if_pos hc49]
    refine w_iconst (v := 0) X hx (hb hby d2_62) (pc' := 63) rfl rfl ?_
    exact bk2_63 X hx hZ hw hby hml hown hret hlk e0 N0 x0 x1 y0 (0 : Int32)
  · rw [if_neg hc49]
    refine w_iloadN X hx (hb hby d2_52) (pc' := 53) rfl rfl ?_
    refine w_ldc X hx hZ hown (hw _ (List.mem_of_getElem? (i := 3) rfl)) (hb hby d2_53) (pc' := 55) rfl ?_
    refine w_icmp_gt X hx (hb hby d2_55) (pf := 58) (pt := 62) rfl (by decide) (by decide) (fun hc55 => ?_) (fun hc55 => ?_)
    · rw [if_pos hc55]
      refine w_iconst (v := 0) X hx (hb hby d2_62) (pc' := 63) rfl rfl ?_
      exact bk2_63 X hx hZ hw hby hml hown hret hlk e0 N0 x0 x1 y0 (0 : Int32)
    · rw [if_neg hc55]
      refine w_iconst (v := 1) X hx (hb hby d2_58) (pc' := 59) rfl rfl ?_
      refine w_goto X hx (hb hby d2_59) (pc' := 63) (by decide) (by decide) ?_
      exact bk2_63 X hx hZ hw hby hml hown hret hlk e0 N0 x0 x1 y0 (1 : Int32)
def K2_15 (x0 : Int32) (y0 : Int32) : Int32 :=
  (if x0 < (32 : Int32) then (if x0 = (9 : Int32) then (K2_45 x0 y0 (0 : Int32))
   else (if x0 = (10 : Int32) then (K2_45 x0 y0 (0 : Int32))
    else (if x0 = (13 : Int32) then (K2_45 x0 y0 (0 : Int32))
     else (K2_45 x0 y0 (1 : Int32)))))
  else (K2_45 x0 y0 (0 : Int32)))
set_option maxRecDepth 65536 in
set_option maxHeartbeats 4000000 in
theorem bk2_15 {p : Program} {l : Launch} {e : Env} {s : State} {m : MethodId} {args : Array Value} {below : List Frame} {meth : Method} {c : Code} {T : State} {locs : List Loc} {Z : State} {a0 : Array Value} {h0 : Heap} {n0 : Nat} (X : Stand p l e ({ frames := 0, cells := 0, slots := 0, locals := 0 } : Room) s m args below meth c T locs 0 0) (hx : p.tables.exec = Jvm.exec) (hZ : Z.Warmed39 s.vm) (hw : ∀ d ∈ tables_1, d.before a0 Z = true) (hby : c.code = method_2_code) (hml : c.maxLocals = 5) (hown : s.vm.findClass "com/example/corelint/corelint/XmlCharsIsCharPinLaw" = some m.cls) (hret : meth.sig.returnType = (some .boolean)) (hlk : meth.locks = false) (e0 : T.heap = h0) (N0 : Fr n0 locs) (x0 : Int32) (y0 : Int32) :
    Go p e below s 0 0 (QP (some (.int (K2_15 x0 y0))) h0 n0) T (mkF m 15 #[.val (.int x0), .unset, .unset, .unset, .unset] [(.int y0)]) := by
  rw [K2_15]
  refine w_istoreN (Ls' := #[.val (.int x0), .val (.int y0), .unset, .unset, .unset]) X hx (hb hby d2_15) (pc' := 16) rfl rfl ?_
  refine w_iloadN X hx (hb hby d2_16) (pc' := 17) rfl rfl ?_
  refine w_bipush (v := 32) X hx (hb hby d2_17) (pc' := 19) rfl rfl ?_
  refine w_icmp_ge X hx (hb hby d2_19) (pf := 22) (pt := 44) rfl (by decide) (by decide) (fun hc19 => ?_) (fun hc19 => ?_)
  · rw [if_neg hc19]
    refine w_iconst (v := 0) X hx (hb hby d2_44) (pc' := 45) rfl rfl ?_
    exact bk2_45 X hx hZ hw hby hml hown hret hlk e0 N0 x0 y0 (0 : Int32)
  · rw [if_pos hc19]
    refine w_iloadN X hx (hb hby d2_22) (pc' := 23) rfl rfl ?_
    refine w_bipush (v := 9) X hx (hb hby d2_23) (pc' := 25) rfl rfl ?_
    refine w_icmp_eq X hx (hb hby d2_25) (pf := 28) (pt := 44) rfl (by decide) (by decide) (fun hc25 => ?_) (fun hc25 => ?_)
    · rw [if_pos hc25]
      refine w_iconst (v := 0) X hx (hb hby d2_44) (pc' := 45) rfl rfl ?_
      exact bk2_45 X hx hZ hw hby hml hown hret hlk e0 N0 x0 y0 (0 : Int32)
    · rw [if_neg hc25]
      refine w_iloadN X hx (hb hby d2_28) (pc' := 29) rfl rfl ?_
      refine w_bipush (v := 10) X hx (hb hby d2_29) (pc' := 31) rfl rfl ?_
      refine w_icmp_eq X hx (hb hby d2_31) (pf := 34) (pt := 44) rfl (by decide) (by decide) (fun hc31 => ?_) (fun hc31 => ?_)
      · rw [if_pos hc31]
        refine w_iconst (v := 0) X hx (hb hby d2_44) (pc' := 45) rfl rfl ?_
        exact bk2_45 X hx hZ hw hby hml hown hret hlk e0 N0 x0 y0 (0 : Int32)
      · rw [if_neg hc31]
        refine w_iloadN X hx (hb hby d2_34) (pc' := 35) rfl rfl ?_
        refine w_bipush (v := 13) X hx (hb hby d2_35) (pc' := 37) rfl rfl ?_
        refine w_icmp_eq X hx (hb hby d2_37) (pf := 40) (pt := 44) rfl (by decide) (by decide) (fun hc37 => ?_) (fun hc37 => ?_)
        · rw [if_pos hc37]
          refine w_iconst (v := 0) X hx (hb hby d2_44) (pc' := 45) rfl rfl ?_
          exact bk2_45 X hx hZ hw hby hml hown hret hlk e0 N0 x0 y0 (0 : Int32)
        · rw [if_neg hc37]
          refine w_iconst (v := 1) X hx (hb hby d2_40) (pc' := 41) rfl rfl ?_
          refine w_goto X hx (hb hby d2_41) (pc' := 45) (by decide) (by decide) ?_
          exact bk2_45 X hx hZ hw hby hml hown hret hlk e0 N0 x0 y0 (1 : Int32)
def K2_0 (x0 : Int32) : Int32 :=
  (if x0 < (0 : Int32) then (K2_15 x0 (0 : Int32))
  else (if (1114111 : Int32) < x0 then (K2_15 x0 (0 : Int32))
   else (K2_15 x0 (1 : Int32))))
set_option maxRecDepth 65536 in
set_option maxHeartbeats 4000000 in
theorem bk2_0 {p : Program} {l : Launch} {e : Env} {s : State} {m : MethodId} {args : Array Value} {below : List Frame} {meth : Method} {c : Code} {T : State} {locs : List Loc} {Z : State} {a0 : Array Value} {h0 : Heap} {n0 : Nat} (X : Stand p l e ({ frames := 0, cells := 0, slots := 0, locals := 0 } : Room) s m args below meth c T locs 0 0) (hx : p.tables.exec = Jvm.exec) (hZ : Z.Warmed39 s.vm) (hw : ∀ d ∈ tables_1, d.before a0 Z = true) (hby : c.code = method_2_code) (hml : c.maxLocals = 5) (hown : s.vm.findClass "com/example/corelint/corelint/XmlCharsIsCharPinLaw" = some m.cls) (hret : meth.sig.returnType = (some .boolean)) (hlk : meth.locks = false) (e0 : T.heap = h0) (N0 : Fr n0 locs) (x0 : Int32) :
    Go p e below s 0 0 (QP (some (.int (K2_0 x0))) h0 n0) T (mkF m 0 #[.val (.int x0), .unset, .unset, .unset, .unset] []) := by
  rw [K2_0]
  refine w_iloadN X hx (hb hby d2_0) (pc' := 1) rfl rfl ?_
  refine w_if_lt X hx (hb hby d2_1) (pf := 4) (pt := 14) rfl (by decide) (by decide) (fun hc1 => ?_) (fun hc1 => ?_)
  · rw [if_pos hc1]
    refine w_iconst (v := 0) X hx (hb hby d2_14) (pc' := 15) rfl rfl ?_
    exact bk2_15 X hx hZ hw hby hml hown hret hlk e0 N0 x0 (0 : Int32)
  · rw [if_neg hc1]
    refine w_iloadN X hx (hb hby d2_4) (pc' := 5) rfl rfl ?_
    refine w_ldc X hx hZ hown (hw _ (List.mem_of_getElem? (i := 8) rfl)) (hb hby d2_5) (pc' := 7) rfl ?_
    refine w_icmp_gt X hx (hb hby d2_7) (pf := 10) (pt := 14) rfl (by decide) (by decide) (fun hc7 => ?_) (fun hc7 => ?_)
    · rw [if_pos hc7]
      refine w_iconst (v := 0) X hx (hb hby d2_14) (pc' := 15) rfl rfl ?_
      exact bk2_15 X hx hZ hw hby hml hown hret hlk e0 N0 x0 (0 : Int32)
    · rw [if_neg hc7]
      refine w_iconst (v := 1) X hx (hb hby d2_10) (pc' := 11) rfl rfl ?_
      refine w_goto X hx (hb hby d2_11) (pc' := 15) (by decide) (by decide) ?_
      exact bk2_15 X hx hZ hw hby hml hown hret hlk e0 N0 x0 (1 : Int32)
theorem ef_2 (m : MethodId) (x0 : Int32) : entryFrame m #[(.int x0)] 5 = mkF m 0 #[.val (.int x0), .unset, .unset, .unset, .unset] [] := by first | (simp [entryFrame, mkF, argsToLocals, Value.category]; done) | rfl
theorem rm2 (l : Launch) (Z : State) (a0 : Array Value) (hw : ∀ d ∈ tables_1, d.before a0 Z = true) (x0 : Int32) (h0 : Heap) (n0 : Nat) :
    Con l Z (⟨"com/example/corelint/corelint/XmlCharsIsCharPinLaw", "expected", "(I)Z"⟩ : MethodName) method_2_code 5 (some .boolean) ({ frames := 0, cells := 0, slots := 0, locals := 0 } : Room) #[(.int x0)] h0 (QP (some (.int (K2_0 x0))) h0 n0) := by
  refine Con.of (plainFor_of_name (by first | (simp [plainName, overriddenIn]; done) | decide +kernel)) ?_
  intro p e s m below meth c T X hx hZ hby hml hown hnm hret hlk e0
  rw [ef_2]
  exact bk2_0 X hx hZ hw hby hml hown hret hlk e0 (Fr.nil n0) x0
theorem own_m (x m : Int32) {k : Nat} (hk : k < 32) (hm : m.toBitVec.toNat = 2 ^ k - 1) : 0 ≤ (x &&& m).toInt ∧ (x &&& m).toInt < 2 ^ k := by
  rw [Jvm.Kit.i32_mask x m hk hm]
  exact ⟨Int.emod_nonneg _ (by have : (0 : Int) < 2 ^ k := Int.pow_pos (by decide); omega), Int.emod_lt_of_pos _ (Int.pow_pos (by decide))⟩
theorem own_one : (1 : Int32).toInt = 1 := by decide
theorem own_zero : (0 : Int32).toInt = 0 := by decide
theorem own_toInt {x y : Int32} (h : x.toInt = y.toInt) : x = y := Int32.toInt_inj.mp h
theorem own_and1 (x : Int32) : x &&& 1 = 0 ∨ x &&& 1 = 1 := and_one x
theorem own_and3 (x : Int32) : x &&& 3 = 0 ∨ x &&& 3 = 1 ∨ x &&& 3 = 2 ∨ x &&& 3 = 3 := by
  obtain ⟨h1, h2⟩ := own_m x 3 (k := 2) (by decide) (by decide)
  have e1 : (1 : Int32).toInt = 1 := by decide
  have e2 : (2 : Int32).toInt = 2 := by decide
  have e3 : (3 : Int32).toInt = 3 := by decide
  have e0 : (0 : Int32).toInt = 0 := by decide
  have : (x &&& 3).toInt = 0 ∨ (x &&& 3).toInt = 1 ∨ (x &&& 3).toInt = 2 ∨ (x &&& 3).toInt = 3 := by omega
  rcases this with h | h | h | h
  · exact Or.inl (own_toInt (h.trans e0.symm))
  · exact Or.inr (Or.inl (own_toInt (h.trans e1.symm)))
  · exact Or.inr (Or.inr (Or.inl (own_toInt (h.trans e2.symm))))
  · exact Or.inr (Or.inr (Or.inr (own_toInt (h.trans e3.symm))))
theorem own_b01 {c : Prop} [Decidable c] {v : Int32} (h : v = if c then 0 else 1) : v = 0 ∨ v = 1 := by subst h; split <;> simp
theorem own_b10 {c : Prop} [Decidable c] {v : Int32} (h : v = if c then 1 else 0) : v = 0 ∨ v = 1 := by subst h; split <;> simp
theorem own_ltT {c k : Int32} (K : Int) (hk : k.toInt = K) (h : c.toInt < K) : (c < k) = True := eq_true (by rw [Int32.lt_iff_toInt_lt]; omega)
theorem own_ltF {c k : Int32} (K : Int) (hk : k.toInt = K) (h : ¬ c.toInt < K) : (c < k) = False := eq_false (by rw [Int32.lt_iff_toInt_lt]; omega)
theorem own_gtT {c k : Int32} (K : Int) (hk : k.toInt = K) (h : K < c.toInt) : (k < c) = True := eq_true (by rw [Int32.lt_iff_toInt_lt]; omega)
theorem own_gtF {c k : Int32} (K : Int) (hk : k.toInt = K) (h : ¬ K < c.toInt) : (k < c) = False := eq_false (by rw [Int32.lt_iff_toInt_lt]; omega)
theorem own_eqT {c k : Int32} (K : Int) (hk : k.toInt = K) (h : c.toInt = K) : (c = k) = True := eq_true (Int32.toInt_inj.mp (by omega))
theorem own_eqF {c k : Int32} (K : Int) (hk : k.toInt = K) (h : ¬ c.toInt = K) : (c = k) = False := eq_false (fun q => h (by rw [q]; exact hk))
theorem own_same_0 (c : Int32) (h1 : -2147483648 ≤ c.toInt) (h2 : c.toInt ≤ -1) : K1_0 c = K2_0 c := by
  have t0 := own_eqF (c := c) (k := (0 : Int32)) (0) (by decide) (by omega)
  have t1 := own_eqF (c := c) (k := (9 : Int32)) (9) (by decide) (by omega)
  have t2 := own_eqF (c := c) (k := (10 : Int32)) (10) (by decide) (by omega)
  have t3 := own_eqF (c := c) (k := (13 : Int32)) (13) (by decide) (by omega)
  have t4 := own_eqF (c := c) (k := (65534 : Int32)) (65534) (by decide) (by omega)
  have t5 := own_eqF (c := c) (k := (65535 : Int32)) (65535) (by decide) (by omega)
  have t6 := own_gtF (c := c) (k := (55295 : Int32)) (55295) (by decide) (by omega)
  have t7 := own_gtF (c := c) (k := (57343 : Int32)) (57343) (by decide) (by omega)
  have t8 := own_gtF (c := c) (k := (65533 : Int32)) (65533) (by decide) (by omega)
  have t9 := own_gtF (c := c) (k := (1114111 : Int32)) (1114111) (by decide) (by omega)
  have t10 := own_ltT (c := c) (k := (0 : Int32)) (0) (by decide) (by omega)
  have t11 := own_ltT (c := c) (k := (32 : Int32)) (32) (by decide) (by omega)
  have t12 := own_ltT (c := c) (k := (55296 : Int32)) (55296) (by decide) (by omega)
  have t13 := own_ltT (c := c) (k := (57344 : Int32)) (57344) (by decide) (by omega)
  have t14 := own_ltT (c := c) (k := (65536 : Int32)) (65536) (by decide) (by omega)
  simp +decide only [K1_0, K1_51, K2_0, K2_15, K2_45, K2_63, K2_81, t0, t1, t2, t3, t4, t5, t6, t7, t8, t9, t10, t11, t12, t13, t14, if_true, if_false, ↓reduceIte]
theorem own_same_1 (c : Int32) (h1 : 0 ≤ c.toInt) (h2 : c.toInt ≤ 0) : K1_0 c = K2_0 c := by
  have t0 := own_eqT (c := c) (k := (0 : Int32)) (0) (by decide) (by omega)
  have t1 := own_eqF (c := c) (k := (9 : Int32)) (9) (by decide) (by omega)
  have t2 := own_eqF (c := c) (k := (10 : Int32)) (10) (by decide) (by omega)
  have t3 := own_eqF (c := c) (k := (13 : Int32)) (13) (by decide) (by omega)
  have t4 := own_eqF (c := c) (k := (65534 : Int32)) (65534) (by decide) (by omega)
  have t5 := own_eqF (c := c) (k := (65535 : Int32)) (65535) (by decide) (by omega)
  have t6 := own_gtF (c := c) (k := (55295 : Int32)) (55295) (by decide) (by omega)
  have t7 := own_gtF (c := c) (k := (57343 : Int32)) (57343) (by decide) (by omega)
  have t8 := own_gtF (c := c) (k := (65533 : Int32)) (65533) (by decide) (by omega)
  have t9 := own_gtF (c := c) (k := (1114111 : Int32)) (1114111) (by decide) (by omega)
  have t10 := own_ltF (c := c) (k := (0 : Int32)) (0) (by decide) (by omega)
  have t11 := own_ltT (c := c) (k := (32 : Int32)) (32) (by decide) (by omega)
  have t12 := own_ltT (c := c) (k := (55296 : Int32)) (55296) (by decide) (by omega)
  have t13 := own_ltT (c := c) (k := (57344 : Int32)) (57344) (by decide) (by omega)
  have t14 := own_ltT (c := c) (k := (65536 : Int32)) (65536) (by decide) (by omega)
  simp +decide only [K1_0, K1_51, K2_0, K2_15, K2_45, K2_63, K2_81, t0, t1, t2, t3, t4, t5, t6, t7, t8, t9, t10, t11, t12, t13, t14, if_true, if_false, ↓reduceIte]
theorem own_same_2 (c : Int32) (h1 : 1 ≤ c.toInt) (h2 : c.toInt ≤ 8) : K1_0 c = K2_0 c := by
  have t0 := own_eqF (c := c) (k := (0 : Int32)) (0) (by decide) (by omega)
  have t1 := own_eqF (c := c) (k := (9 : Int32)) (9) (by decide) (by omega)
  have t2 := own_eqF (c := c) (k := (10 : Int32)) (10) (by decide) (by omega)
  have t3 := own_eqF (c := c) (k := (13 : Int32)) (13) (by decide) (by omega)
  have t4 := own_eqF (c := c) (k := (65534 : Int32)) (65534) (by decide) (by omega)
  have t5 := own_eqF (c := c) (k := (65535 : Int32)) (65535) (by decide) (by omega)
  have t6 := own_gtF (c := c) (k := (55295 : Int32)) (55295) (by decide) (by omega)
  have t7 := own_gtF (c := c) (k := (57343 : Int32)) (57343) (by decide) (by omega)
  have t8 := own_gtF (c := c) (k := (65533 : Int32)) (65533) (by decide) (by omega)
  have t9 := own_gtF (c := c) (k := (1114111 : Int32)) (1114111) (by decide) (by omega)
  have t10 := own_ltF (c := c) (k := (0 : Int32)) (0) (by decide) (by omega)
  have t11 := own_ltT (c := c) (k := (32 : Int32)) (32) (by decide) (by omega)
  have t12 := own_ltT (c := c) (k := (55296 : Int32)) (55296) (by decide) (by omega)
  have t13 := own_ltT (c := c) (k := (57344 : Int32)) (57344) (by decide) (by omega)
  have t14 := own_ltT (c := c) (k := (65536 : Int32)) (65536) (by decide) (by omega)
  simp +decide only [K1_0, K1_51, K2_0, K2_15, K2_45, K2_63, K2_81, t0, t1, t2, t3, t4, t5, t6, t7, t8, t9, t10, t11, t12, t13, t14, if_true, if_false, ↓reduceIte]
theorem own_same_3 (c : Int32) (h1 : 9 ≤ c.toInt) (h2 : c.toInt ≤ 9) : K1_0 c = K2_0 c := by
  have t0 := own_eqF (c := c) (k := (0 : Int32)) (0) (by decide) (by omega)
  have t1 := own_eqT (c := c) (k := (9 : Int32)) (9) (by decide) (by omega)
  have t2 := own_eqF (c := c) (k := (10 : Int32)) (10) (by decide) (by omega)
  have t3 := own_eqF (c := c) (k := (13 : Int32)) (13) (by decide) (by omega)
  have t4 := own_eqF (c := c) (k := (65534 : Int32)) (65534) (by decide) (by omega)
  have t5 := own_eqF (c := c) (k := (65535 : Int32)) (65535) (by decide) (by omega)
  have t6 := own_gtF (c := c) (k := (55295 : Int32)) (55295) (by decide) (by omega)
  have t7 := own_gtF (c := c) (k := (57343 : Int32)) (57343) (by decide) (by omega)
  have t8 := own_gtF (c := c) (k := (65533 : Int32)) (65533) (by decide) (by omega)
  have t9 := own_gtF (c := c) (k := (1114111 : Int32)) (1114111) (by decide) (by omega)
  have t10 := own_ltF (c := c) (k := (0 : Int32)) (0) (by decide) (by omega)
  have t11 := own_ltT (c := c) (k := (32 : Int32)) (32) (by decide) (by omega)
  have t12 := own_ltT (c := c) (k := (55296 : Int32)) (55296) (by decide) (by omega)
  have t13 := own_ltT (c := c) (k := (57344 : Int32)) (57344) (by decide) (by omega)
  have t14 := own_ltT (c := c) (k := (65536 : Int32)) (65536) (by decide) (by omega)
  simp +decide only [K1_0, K1_51, K2_0, K2_15, K2_45, K2_63, K2_81, t0, t1, t2, t3, t4, t5, t6, t7, t8, t9, t10, t11, t12, t13, t14, if_true, if_false, ↓reduceIte]
theorem own_same_4 (c : Int32) (h1 : 10 ≤ c.toInt) (h2 : c.toInt ≤ 10) : K1_0 c = K2_0 c := by
  have t0 := own_eqF (c := c) (k := (0 : Int32)) (0) (by decide) (by omega)
  have t1 := own_eqF (c := c) (k := (9 : Int32)) (9) (by decide) (by omega)
  have t2 := own_eqT (c := c) (k := (10 : Int32)) (10) (by decide) (by omega)
  have t3 := own_eqF (c := c) (k := (13 : Int32)) (13) (by decide) (by omega)
  have t4 := own_eqF (c := c) (k := (65534 : Int32)) (65534) (by decide) (by omega)
  have t5 := own_eqF (c := c) (k := (65535 : Int32)) (65535) (by decide) (by omega)
  have t6 := own_gtF (c := c) (k := (55295 : Int32)) (55295) (by decide) (by omega)
  have t7 := own_gtF (c := c) (k := (57343 : Int32)) (57343) (by decide) (by omega)
  have t8 := own_gtF (c := c) (k := (65533 : Int32)) (65533) (by decide) (by omega)
  have t9 := own_gtF (c := c) (k := (1114111 : Int32)) (1114111) (by decide) (by omega)
  have t10 := own_ltF (c := c) (k := (0 : Int32)) (0) (by decide) (by omega)
  have t11 := own_ltT (c := c) (k := (32 : Int32)) (32) (by decide) (by omega)
  have t12 := own_ltT (c := c) (k := (55296 : Int32)) (55296) (by decide) (by omega)
  have t13 := own_ltT (c := c) (k := (57344 : Int32)) (57344) (by decide) (by omega)
  have t14 := own_ltT (c := c) (k := (65536 : Int32)) (65536) (by decide) (by omega)
  simp +decide only [K1_0, K1_51, K2_0, K2_15, K2_45, K2_63, K2_81, t0, t1, t2, t3, t4, t5, t6, t7, t8, t9, t10, t11, t12, t13, t14, if_true, if_false, ↓reduceIte]
theorem own_same_5 (c : Int32) (h1 : 11 ≤ c.toInt) (h2 : c.toInt ≤ 12) : K1_0 c = K2_0 c := by
  have t0 := own_eqF (c := c) (k := (0 : Int32)) (0) (by decide) (by omega)
  have t1 := own_eqF (c := c) (k := (9 : Int32)) (9) (by decide) (by omega)
  have t2 := own_eqF (c := c) (k := (10 : Int32)) (10) (by decide) (by omega)
  have t3 := own_eqF (c := c) (k := (13 : Int32)) (13) (by decide) (by omega)
  have t4 := own_eqF (c := c) (k := (65534 : Int32)) (65534) (by decide) (by omega)
  have t5 := own_eqF (c := c) (k := (65535 : Int32)) (65535) (by decide) (by omega)
  have t6 := own_gtF (c := c) (k := (55295 : Int32)) (55295) (by decide) (by omega)
  have t7 := own_gtF (c := c) (k := (57343 : Int32)) (57343) (by decide) (by omega)
  have t8 := own_gtF (c := c) (k := (65533 : Int32)) (65533) (by decide) (by omega)
  have t9 := own_gtF (c := c) (k := (1114111 : Int32)) (1114111) (by decide) (by omega)
  have t10 := own_ltF (c := c) (k := (0 : Int32)) (0) (by decide) (by omega)
  have t11 := own_ltT (c := c) (k := (32 : Int32)) (32) (by decide) (by omega)
  have t12 := own_ltT (c := c) (k := (55296 : Int32)) (55296) (by decide) (by omega)
  have t13 := own_ltT (c := c) (k := (57344 : Int32)) (57344) (by decide) (by omega)
  have t14 := own_ltT (c := c) (k := (65536 : Int32)) (65536) (by decide) (by omega)
  simp +decide only [K1_0, K1_51, K2_0, K2_15, K2_45, K2_63, K2_81, t0, t1, t2, t3, t4, t5, t6, t7, t8, t9, t10, t11, t12, t13, t14, if_true, if_false, ↓reduceIte]
theorem own_same_6 (c : Int32) (h1 : 13 ≤ c.toInt) (h2 : c.toInt ≤ 13) : K1_0 c = K2_0 c := by
  have t0 := own_eqF (c := c) (k := (0 : Int32)) (0) (by decide) (by omega)
  have t1 := own_eqF (c := c) (k := (9 : Int32)) (9) (by decide) (by omega)
  have t2 := own_eqF (c := c) (k := (10 : Int32)) (10) (by decide) (by omega)
  have t3 := own_eqT (c := c) (k := (13 : Int32)) (13) (by decide) (by omega)
  have t4 := own_eqF (c := c) (k := (65534 : Int32)) (65534) (by decide) (by omega)
  have t5 := own_eqF (c := c) (k := (65535 : Int32)) (65535) (by decide) (by omega)
  have t6 := own_gtF (c := c) (k := (55295 : Int32)) (55295) (by decide) (by omega)
  have t7 := own_gtF (c := c) (k := (57343 : Int32)) (57343) (by decide) (by omega)
  have t8 := own_gtF (c := c) (k := (65533 : Int32)) (65533) (by decide) (by omega)
  have t9 := own_gtF (c := c) (k := (1114111 : Int32)) (1114111) (by decide) (by omega)
  have t10 := own_ltF (c := c) (k := (0 : Int32)) (0) (by decide) (by omega)
  have t11 := own_ltT (c := c) (k := (32 : Int32)) (32) (by decide) (by omega)
  have t12 := own_ltT (c := c) (k := (55296 : Int32)) (55296) (by decide) (by omega)
  have t13 := own_ltT (c := c) (k := (57344 : Int32)) (57344) (by decide) (by omega)
  have t14 := own_ltT (c := c) (k := (65536 : Int32)) (65536) (by decide) (by omega)
  simp +decide only [K1_0, K1_51, K2_0, K2_15, K2_45, K2_63, K2_81, t0, t1, t2, t3, t4, t5, t6, t7, t8, t9, t10, t11, t12, t13, t14, if_true, if_false, ↓reduceIte]
theorem own_same_7 (c : Int32) (h1 : 14 ≤ c.toInt) (h2 : c.toInt ≤ 31) : K1_0 c = K2_0 c := by
  have t0 := own_eqF (c := c) (k := (0 : Int32)) (0) (by decide) (by omega)
  have t1 := own_eqF (c := c) (k := (9 : Int32)) (9) (by decide) (by omega)
  have t2 := own_eqF (c := c) (k := (10 : Int32)) (10) (by decide) (by omega)
  have t3 := own_eqF (c := c) (k := (13 : Int32)) (13) (by decide) (by omega)
  have t4 := own_eqF (c := c) (k := (65534 : Int32)) (65534) (by decide) (by omega)
  have t5 := own_eqF (c := c) (k := (65535 : Int32)) (65535) (by decide) (by omega)
  have t6 := own_gtF (c := c) (k := (55295 : Int32)) (55295) (by decide) (by omega)
  have t7 := own_gtF (c := c) (k := (57343 : Int32)) (57343) (by decide) (by omega)
  have t8 := own_gtF (c := c) (k := (65533 : Int32)) (65533) (by decide) (by omega)
  have t9 := own_gtF (c := c) (k := (1114111 : Int32)) (1114111) (by decide) (by omega)
  have t10 := own_ltF (c := c) (k := (0 : Int32)) (0) (by decide) (by omega)
  have t11 := own_ltT (c := c) (k := (32 : Int32)) (32) (by decide) (by omega)
  have t12 := own_ltT (c := c) (k := (55296 : Int32)) (55296) (by decide) (by omega)
  have t13 := own_ltT (c := c) (k := (57344 : Int32)) (57344) (by decide) (by omega)
  have t14 := own_ltT (c := c) (k := (65536 : Int32)) (65536) (by decide) (by omega)
  simp +decide only [K1_0, K1_51, K2_0, K2_15, K2_45, K2_63, K2_81, t0, t1, t2, t3, t4, t5, t6, t7, t8, t9, t10, t11, t12, t13, t14, if_true, if_false, ↓reduceIte]
theorem own_same_8 (c : Int32) (h1 : 32 ≤ c.toInt) (h2 : c.toInt ≤ 55295) : K1_0 c = K2_0 c := by
  have t0 := own_eqF (c := c) (k := (0 : Int32)) (0) (by decide) (by omega)
  have t1 := own_eqF (c := c) (k := (9 : Int32)) (9) (by decide) (by omega)
  have t2 := own_eqF (c := c) (k := (10 : Int32)) (10) (by decide) (by omega)
  have t3 := own_eqF (c := c) (k := (13 : Int32)) (13) (by decide) (by omega)
  have t4 := own_eqF (c := c) (k := (65534 : Int32)) (65534) (by decide) (by omega)
  have t5 := own_eqF (c := c) (k := (65535 : Int32)) (65535) (by decide) (by omega)
  have t6 := own_gtF (c := c) (k := (55295 : Int32)) (55295) (by decide) (by omega)
  have t7 := own_gtF (c := c) (k := (57343 : Int32)) (57343) (by decide) (by omega)
  have t8 := own_gtF (c := c) (k := (65533 : Int32)) (65533) (by decide) (by omega)
  have t9 := own_gtF (c := c) (k := (1114111 : Int32)) (1114111) (by decide) (by omega)
  have t10 := own_ltF (c := c) (k := (0 : Int32)) (0) (by decide) (by omega)
  have t11 := own_ltF (c := c) (k := (32 : Int32)) (32) (by decide) (by omega)
  have t12 := own_ltT (c := c) (k := (55296 : Int32)) (55296) (by decide) (by omega)
  have t13 := own_ltT (c := c) (k := (57344 : Int32)) (57344) (by decide) (by omega)
  have t14 := own_ltT (c := c) (k := (65536 : Int32)) (65536) (by decide) (by omega)
  simp +decide only [K1_0, K1_51, K2_0, K2_15, K2_45, K2_63, K2_81, t0, t1, t2, t3, t4, t5, t6, t7, t8, t9, t10, t11, t12, t13, t14, if_true, if_false, ↓reduceIte]
theorem own_same_9 (c : Int32) (h1 : 55296 ≤ c.toInt) (h2 : c.toInt ≤ 57343) : K1_0 c = K2_0 c := by
  have t0 := own_eqF (c := c) (k := (0 : Int32)) (0) (by decide) (by omega)
  have t1 := own_eqF (c := c) (k := (9 : Int32)) (9) (by decide) (by omega)
  have t2 := own_eqF (c := c) (k := (10 : Int32)) (10) (by decide) (by omega)
  have t3 := own_eqF (c := c) (k := (13 : Int32)) (13) (by decide) (by omega)
  have t4 := own_eqF (c := c) (k := (65534 : Int32)) (65534) (by decide) (by omega)
  have t5 := own_eqF (c := c) (k := (65535 : Int32)) (65535) (by decide) (by omega)
  have t6 := own_gtT (c := c) (k := (55295 : Int32)) (55295) (by decide) (by omega)
  have t7 := own_gtF (c := c) (k := (57343 : Int32)) (57343) (by decide) (by omega)
  have t8 := own_gtF (c := c) (k := (65533 : Int32)) (65533) (by decide) (by omega)
  have t9 := own_gtF (c := c) (k := (1114111 : Int32)) (1114111) (by decide) (by omega)
  have t10 := own_ltF (c := c) (k := (0 : Int32)) (0) (by decide) (by omega)
  have t11 := own_ltF (c := c) (k := (32 : Int32)) (32) (by decide) (by omega)
  have t12 := own_ltF (c := c) (k := (55296 : Int32)) (55296) (by decide) (by omega)
  have t13 := own_ltT (c := c) (k := (57344 : Int32)) (57344) (by decide) (by omega)
  have t14 := own_ltT (c := c) (k := (65536 : Int32)) (65536) (by decide) (by omega)
  simp +decide only [K1_0, K1_51, K2_0, K2_15, K2_45, K2_63, K2_81, t0, t1, t2, t3, t4, t5, t6, t7, t8, t9, t10, t11, t12, t13, t14, if_true, if_false, ↓reduceIte]
theorem own_same_10 (c : Int32) (h1 : 57344 ≤ c.toInt) (h2 : c.toInt ≤ 65533) : K1_0 c = K2_0 c := by
  have t0 := own_eqF (c := c) (k := (0 : Int32)) (0) (by decide) (by omega)
  have t1 := own_eqF (c := c) (k := (9 : Int32)) (9) (by decide) (by omega)
  have t2 := own_eqF (c := c) (k := (10 : Int32)) (10) (by decide) (by omega)
  have t3 := own_eqF (c := c) (k := (13 : Int32)) (13) (by decide) (by omega)
  have t4 := own_eqF (c := c) (k := (65534 : Int32)) (65534) (by decide) (by omega)
  have t5 := own_eqF (c := c) (k := (65535 : Int32)) (65535) (by decide) (by omega)
  have t6 := own_gtT (c := c) (k := (55295 : Int32)) (55295) (by decide) (by omega)
  have t7 := own_gtT (c := c) (k := (57343 : Int32)) (57343) (by decide) (by omega)
  have t8 := own_gtF (c := c) (k := (65533 : Int32)) (65533) (by decide) (by omega)
  have t9 := own_gtF (c := c) (k := (1114111 : Int32)) (1114111) (by decide) (by omega)
  have t10 := own_ltF (c := c) (k := (0 : Int32)) (0) (by decide) (by omega)
  have t11 := own_ltF (c := c) (k := (32 : Int32)) (32) (by decide) (by omega)
  have t12 := own_ltF (c := c) (k := (55296 : Int32)) (55296) (by decide) (by omega)
  have t13 := own_ltF (c := c) (k := (57344 : Int32)) (57344) (by decide) (by omega)
  have t14 := own_ltT (c := c) (k := (65536 : Int32)) (65536) (by decide) (by omega)
  simp +decide only [K1_0, K1_51, K2_0, K2_15, K2_45, K2_63, K2_81, t0, t1, t2, t3, t4, t5, t6, t7, t8, t9, t10, t11, t12, t13, t14, if_true, if_false, ↓reduceIte]
theorem own_same_11 (c : Int32) (h1 : 65534 ≤ c.toInt) (h2 : c.toInt ≤ 65534) : K1_0 c = K2_0 c := by
  have t0 := own_eqF (c := c) (k := (0 : Int32)) (0) (by decide) (by omega)
  have t1 := own_eqF (c := c) (k := (9 : Int32)) (9) (by decide) (by omega)
  have t2 := own_eqF (c := c) (k := (10 : Int32)) (10) (by decide) (by omega)
  have t3 := own_eqF (c := c) (k := (13 : Int32)) (13) (by decide) (by omega)
  have t4 := own_eqT (c := c) (k := (65534 : Int32)) (65534) (by decide) (by omega)
  have t5 := own_eqF (c := c) (k := (65535 : Int32)) (65535) (by decide) (by omega)
  have t6 := own_gtT (c := c) (k := (55295 : Int32)) (55295) (by decide) (by omega)
  have t7 := own_gtT (c := c) (k := (57343 : Int32)) (57343) (by decide) (by omega)
  have t8 := own_gtT (c := c) (k := (65533 : Int32)) (65533) (by decide) (by omega)
  have t9 := own_gtF (c := c) (k := (1114111 : Int32)) (1114111) (by decide) (by omega)
  have t10 := own_ltF (c := c) (k := (0 : Int32)) (0) (by decide) (by omega)
  have t11 := own_ltF (c := c) (k := (32 : Int32)) (32) (by decide) (by omega)
  have t12 := own_ltF (c := c) (k := (55296 : Int32)) (55296) (by decide) (by omega)
  have t13 := own_ltF (c := c) (k := (57344 : Int32)) (57344) (by decide) (by omega)
  have t14 := own_ltT (c := c) (k := (65536 : Int32)) (65536) (by decide) (by omega)
  simp +decide only [K1_0, K1_51, K2_0, K2_15, K2_45, K2_63, K2_81, t0, t1, t2, t3, t4, t5, t6, t7, t8, t9, t10, t11, t12, t13, t14, if_true, if_false, ↓reduceIte]
theorem own_same_12 (c : Int32) (h1 : 65535 ≤ c.toInt) (h2 : c.toInt ≤ 65535) : K1_0 c = K2_0 c := by
  have t0 := own_eqF (c := c) (k := (0 : Int32)) (0) (by decide) (by omega)
  have t1 := own_eqF (c := c) (k := (9 : Int32)) (9) (by decide) (by omega)
  have t2 := own_eqF (c := c) (k := (10 : Int32)) (10) (by decide) (by omega)
  have t3 := own_eqF (c := c) (k := (13 : Int32)) (13) (by decide) (by omega)
  have t4 := own_eqF (c := c) (k := (65534 : Int32)) (65534) (by decide) (by omega)
  have t5 := own_eqT (c := c) (k := (65535 : Int32)) (65535) (by decide) (by omega)
  have t6 := own_gtT (c := c) (k := (55295 : Int32)) (55295) (by decide) (by omega)
  have t7 := own_gtT (c := c) (k := (57343 : Int32)) (57343) (by decide) (by omega)
  have t8 := own_gtT (c := c) (k := (65533 : Int32)) (65533) (by decide) (by omega)
  have t9 := own_gtF (c := c) (k := (1114111 : Int32)) (1114111) (by decide) (by omega)
  have t10 := own_ltF (c := c) (k := (0 : Int32)) (0) (by decide) (by omega)
  have t11 := own_ltF (c := c) (k := (32 : Int32)) (32) (by decide) (by omega)
  have t12 := own_ltF (c := c) (k := (55296 : Int32)) (55296) (by decide) (by omega)
  have t13 := own_ltF (c := c) (k := (57344 : Int32)) (57344) (by decide) (by omega)
  have t14 := own_ltT (c := c) (k := (65536 : Int32)) (65536) (by decide) (by omega)
  simp +decide only [K1_0, K1_51, K2_0, K2_15, K2_45, K2_63, K2_81, t0, t1, t2, t3, t4, t5, t6, t7, t8, t9, t10, t11, t12, t13, t14, if_true, if_false, ↓reduceIte]
theorem own_same_13 (c : Int32) (h1 : 65536 ≤ c.toInt) (h2 : c.toInt ≤ 1114111) : K1_0 c = K2_0 c := by
  have t0 := own_eqF (c := c) (k := (0 : Int32)) (0) (by decide) (by omega)
  have t1 := own_eqF (c := c) (k := (9 : Int32)) (9) (by decide) (by omega)
  have t2 := own_eqF (c := c) (k := (10 : Int32)) (10) (by decide) (by omega)
  have t3 := own_eqF (c := c) (k := (13 : Int32)) (13) (by decide) (by omega)
  have t4 := own_eqF (c := c) (k := (65534 : Int32)) (65534) (by decide) (by omega)
  have t5 := own_eqF (c := c) (k := (65535 : Int32)) (65535) (by decide) (by omega)
  have t6 := own_gtT (c := c) (k := (55295 : Int32)) (55295) (by decide) (by omega)
  have t7 := own_gtT (c := c) (k := (57343 : Int32)) (57343) (by decide) (by omega)
  have t8 := own_gtT (c := c) (k := (65533 : Int32)) (65533) (by decide) (by omega)
  have t9 := own_gtF (c := c) (k := (1114111 : Int32)) (1114111) (by decide) (by omega)
  have t10 := own_ltF (c := c) (k := (0 : Int32)) (0) (by decide) (by omega)
  have t11 := own_ltF (c := c) (k := (32 : Int32)) (32) (by decide) (by omega)
  have t12 := own_ltF (c := c) (k := (55296 : Int32)) (55296) (by decide) (by omega)
  have t13 := own_ltF (c := c) (k := (57344 : Int32)) (57344) (by decide) (by omega)
  have t14 := own_ltF (c := c) (k := (65536 : Int32)) (65536) (by decide) (by omega)
  simp +decide only [K1_0, K1_51, K2_0, K2_15, K2_45, K2_63, K2_81, t0, t1, t2, t3, t4, t5, t6, t7, t8, t9, t10, t11, t12, t13, t14, if_true, if_false, ↓reduceIte]
theorem own_same_14 (c : Int32) (h1 : 1114112 ≤ c.toInt) (h2 : c.toInt ≤ 2147483647) : K1_0 c = K2_0 c := by
  have t0 := own_eqF (c := c) (k := (0 : Int32)) (0) (by decide) (by omega)
  have t1 := own_eqF (c := c) (k := (9 : Int32)) (9) (by decide) (by omega)
  have t2 := own_eqF (c := c) (k := (10 : Int32)) (10) (by decide) (by omega)
  have t3 := own_eqF (c := c) (k := (13 : Int32)) (13) (by decide) (by omega)
  have t4 := own_eqF (c := c) (k := (65534 : Int32)) (65534) (by decide) (by omega)
  have t5 := own_eqF (c := c) (k := (65535 : Int32)) (65535) (by decide) (by omega)
  have t6 := own_gtT (c := c) (k := (55295 : Int32)) (55295) (by decide) (by omega)
  have t7 := own_gtT (c := c) (k := (57343 : Int32)) (57343) (by decide) (by omega)
  have t8 := own_gtT (c := c) (k := (65533 : Int32)) (65533) (by decide) (by omega)
  have t9 := own_gtT (c := c) (k := (1114111 : Int32)) (1114111) (by decide) (by omega)
  have t10 := own_ltF (c := c) (k := (0 : Int32)) (0) (by decide) (by omega)
  have t11 := own_ltF (c := c) (k := (32 : Int32)) (32) (by decide) (by omega)
  have t12 := own_ltF (c := c) (k := (55296 : Int32)) (55296) (by decide) (by omega)
  have t13 := own_ltF (c := c) (k := (57344 : Int32)) (57344) (by decide) (by omega)
  have t14 := own_ltF (c := c) (k := (65536 : Int32)) (65536) (by decide) (by omega)
  simp +decide only [K1_0, K1_51, K2_0, K2_15, K2_45, K2_63, K2_81, t0, t1, t2, t3, t4, t5, t6, t7, t8, t9, t10, t11, t12, t13, t14, if_true, if_false, ↓reduceIte]
theorem own_same (c : Int32) : K1_0 c = K2_0 c := by
  have h1 := c.toInt_lt
  have h2 := c.le_toInt
  by_cases g0 : c.toInt ≤ -1
  · exact own_same_0 c (by omega) (by omega)
  by_cases g1 : c.toInt ≤ 0
  · exact own_same_1 c (by omega) (by omega)
  by_cases g2 : c.toInt ≤ 8
  · exact own_same_2 c (by omega) (by omega)
  by_cases g3 : c.toInt ≤ 9
  · exact own_same_3 c (by omega) (by omega)
  by_cases g4 : c.toInt ≤ 10
  · exact own_same_4 c (by omega) (by omega)
  by_cases g5 : c.toInt ≤ 12
  · exact own_same_5 c (by omega) (by omega)
  by_cases g6 : c.toInt ≤ 13
  · exact own_same_6 c (by omega) (by omega)
  by_cases g7 : c.toInt ≤ 31
  · exact own_same_7 c (by omega) (by omega)
  by_cases g8 : c.toInt ≤ 55295
  · exact own_same_8 c (by omega) (by omega)
  by_cases g9 : c.toInt ≤ 57343
  · exact own_same_9 c (by omega) (by omega)
  by_cases g10 : c.toInt ≤ 65533
  · exact own_same_10 c (by omega) (by omega)
  by_cases g11 : c.toInt ≤ 65534
  · exact own_same_11 c (by omega) (by omega)
  by_cases g12 : c.toInt ≤ 65535
  · exact own_same_12 c (by omega) (by omega)
  by_cases g13 : c.toInt ≤ 1114111
  · exact own_same_13 c (by omega) (by omega)
  exact own_same_14 c (by omega) (by omega)
theorem own_idx {x sx : Int32} (h : sx = x &&& 15) : ¬ sx < 0 ∧ sx.toNatClampNeg < 16 := by
  have h1 := own_m x 15 (k := 4) (by decide) (by decide)
  rw [← h] at h1
  rw [Int32.lt_iff_toInt_lt, own_zero]
  refine ⟨by omega, ?_⟩
  show sx.toInt.toNat < 16
  omega
theorem ef_0 (m : MethodId) (x0 : Int32) (x1 : Int32) (x2 : Int32) : entryFrame m #[(.int x0), (.int x1), (.int x2)] maxLocals = mkF m 0 #[.val (.int x0), .val (.int x1), .val (.int x2), .unset, .unset, .unset, .unset] [] := by first | (simp [entryFrame, mkF, argsToLocals, Value.category, maxLocals]; done) | rfl
set_option maxRecDepth 65536 in
set_option maxHeartbeats 40000000 in
theorem rm0 (l : Launch) (Z : State) (a0 : Array Value) (hw : ∀ d ∈ tables_1, d.before a0 Z = true) (x0 : Int32) (x1 : Int32) (x2 : Int32) (h0 : Heap) (n0 : Nat) (Z0 : n0 ≤ h0.size) :
    Con l Z x code maxLocals ret room_1 #[(.int x0), (.int x1), (.int x2)] h0 (QL (some (.int 1)) n0) := by
  refine Con.of (plainFor_of_name (by first | (simp [plainName, overriddenIn]; done) | decide +kernel)) ?_
  intro p e s m below meth c T X hx hZ hby hml hown hnm hret hlk e0
  rw [ef_0]
  have N0 := Fr.nil n0
  show Go p e below s room_1.cells room_1.slots (QL (some (.int 1)) n0) T (mkF m 0 #[.val (.int x0), .val (.int x1), .val (.int x2), .unset, .unset, .unset, .unset] [])
  refine w_bipush (v := 16) X hx (hb hby at_0) (pc' := 2) rfl rfl ?_
  refine w_newI X hx hZ (cap := 16) e0 (hw _ (List.mem_of_getElem? (i := 0) rfl)) (by decide) (by decide) (by decide) (by decide) (by decide) (hb hby at_2) (pc' := 4) rfl (fun T1 h1 b1 X1 e1 E1 q1 V1 => ?_)
  have g_b1 : n0 ≤ b1 := by rw [q1]; exact Z0
  have V1 : AI Z h1 b1 .int [(0 : Int32), (0 : Int32), (0 : Int32), (0 : Int32), (0 : Int32), (0 : Int32), (0 : Int32), (0 : Int32), (0 : Int32), (0 : Int32), (0 : Int32), (0 : Int32), (0 : Int32), (0 : Int32), (0 : Int32), (0 : Int32)] := V1
  have zn1 : n0 ≤ h1.size := Nat.le_trans Z0 E1.1
  refine w_dup X1 hx (hb hby at_4) (pc' := 5) rfl rfl ?_
  refine w_iconst (v := 0) X1 hx (hb hby at_5) (pc' := 6) rfl rfl ?_
  refine w_iconst (v := 0) X1 hx (hb hby at_6) (pc' := 7) rfl rfl ?_
  refine w_iastore X1 hx hZ e1 V1 (by decide) (by show _ < 16; decide) (hb hby at_7) (pc' := 8) rfl (fun T2 h2 X2 e2 W2 V2 => ?_)
  have V2 : AI Z h2 b1 .int [(0 : Int32), (0 : Int32), (0 : Int32), (0 : Int32), (0 : Int32), (0 : Int32), (0 : Int32), (0 : Int32), (0 : Int32), (0 : Int32), (0 : Int32), (0 : Int32), (0 : Int32), (0 : Int32), (0 : Int32), (0 : Int32)] := V2
  have N2 := Fr.snoc X2 N0 g_b1
  have zn2 : n0 ≤ h2.size := by rw [W2.size]; exact zn1
  refine w_dup X2 hx (hb hby at_8) (pc' := 9) rfl rfl ?_
  refine w_iconst (v := 1) X2 hx (hb hby at_9) (pc' := 10) rfl rfl ?_
  refine w_bipush (v := 9) X2 hx (hb hby at_10) (pc' := 12) rfl rfl ?_
  refine w_iastore X2 hx hZ e2 V2 (by decide) (by show _ < 16; decide) (hb hby at_12) (pc' := 13) rfl (fun T3 h3 X3 e3 W3 V3 => ?_)
  have V3 : AI Z h3 b1 .int [(0 : Int32), (9 : Int32), (0 : Int32), (0 : Int32), (0 : Int32), (0 : Int32), (0 : Int32), (0 : Int32), (0 : Int32), (0 : Int32), (0 : Int32), (0 : Int32), (0 : Int32), (0 : Int32), (0 : Int32), (0 : Int32)] := V3
  have N3 := Fr.snoc X3 N2 g_b1
  have zn3 : n0 ≤ h3.size := by rw [W3.size]; exact zn2
  refine w_dup X3 hx (hb hby at_13) (pc' := 14) rfl rfl ?_
  refine w_iconst (v := 2) X3 hx (hb hby at_14) (pc' := 15) rfl rfl ?_
  refine w_bipush (v := 10) X3 hx (hb hby at_15) (pc' := 17) rfl rfl ?_
  refine w_iastore X3 hx hZ e3 V3 (by decide) (by show _ < 16; decide) (hb hby at_17) (pc' := 18) rfl (fun T4 h4 X4 e4 W4 V4 => ?_)
  have V4 : AI Z h4 b1 .int [(0 : Int32), (9 : Int32), (10 : Int32), (0 : Int32), (0 : Int32), (0 : Int32), (0 : Int32), (0 : Int32), (0 : Int32), (0 : Int32), (0 : Int32), (0 : Int32), (0 : Int32), (0 : Int32), (0 : Int32), (0 : Int32)] := V4
  have N4 := Fr.snoc X4 N3 g_b1
  have zn4 : n0 ≤ h4.size := by rw [W4.size]; exact zn3
  refine w_dup X4 hx (hb hby at_18) (pc' := 19) rfl rfl ?_
  refine w_iconst (v := 3) X4 hx (hb hby at_19) (pc' := 20) rfl rfl ?_
  refine w_bipush (v := 13) X4 hx (hb hby at_20) (pc' := 22) rfl rfl ?_
  refine w_iastore X4 hx hZ e4 V4 (by decide) (by show _ < 16; decide) (hb hby at_22) (pc' := 23) rfl (fun T5 h5 X5 e5 W5 V5 => ?_)
  have V5 : AI Z h5 b1 .int [(0 : Int32), (9 : Int32), (10 : Int32), (13 : Int32), (0 : Int32), (0 : Int32), (0 : Int32), (0 : Int32), (0 : Int32), (0 : Int32), (0 : Int32), (0 : Int32), (0 : Int32), (0 : Int32), (0 : Int32), (0 : Int32)] := V5
  have N5 := Fr.snoc X5 N4 g_b1
  have zn5 : n0 ≤ h5.size := by rw [W5.size]; exact zn4
  refine w_dup X5 hx (hb hby at_23) (pc' := 24) rfl rfl ?_
  refine w_iconst (v := 4) X5 hx (hb hby at_24) (pc' := 25) rfl rfl ?_
  refine w_bipush (v := 32) X5 hx (hb hby at_25) (pc' := 27) rfl rfl ?_
  refine w_iastore X5 hx hZ e5 V5 (by decide) (by show _ < 16; decide) (hb hby at_27) (pc' := 28) rfl (fun T6 h6 X6 e6 W6 V6 => ?_)
  have V6 : AI Z h6 b1 .int [(0 : Int32), (9 : Int32), (10 : Int32), (13 : Int32), (32 : Int32), (0 : Int32), (0 : Int32), (0 : Int32), (0 : Int32), (0 : Int32), (0 : Int32), (0 : Int32), (0 : Int32), (0 : Int32), (0 : Int32), (0 : Int32)] := V6
  have N6 := Fr.snoc X6 N5 g_b1
  have zn6 : n0 ≤ h6.size := by rw [W6.size]; exact zn5
  refine w_dup X6 hx (hb hby at_28) (pc' := 29) rfl rfl ?_
  refine w_iconst (v := 5) X6 hx (hb hby at_29) (pc' := 30) rfl rfl ?_
  refine w_ldc X6 hx hZ hown (hw _ (List.mem_of_getElem? (i := 1) rfl)) (hb hby at_30) (pc' := 32) rfl ?_
  refine w_iastore X6 hx hZ e6 V6 (by decide) (by show _ < 16; decide) (hb hby at_32) (pc' := 33) rfl (fun T7 h7 X7 e7 W7 V7 => ?_)
  have V7 : AI Z h7 b1 .int [(0 : Int32), (9 : Int32), (10 : Int32), (13 : Int32), (32 : Int32), (55295 : Int32), (0 : Int32), (0 : Int32), (0 : Int32), (0 : Int32), (0 : Int32), (0 : Int32), (0 : Int32), (0 : Int32), (0 : Int32), (0 : Int32)] := V7
  have N7 := Fr.snoc X7 N6 g_b1
  have zn7 : n0 ≤ h7.size := by rw [W7.size]; exact zn6
  refine w_dup X7 hx (hb hby at_33) (pc' := 34) rfl rfl ?_
  refine w_bipush (v := 6) X7 hx (hb hby at_34) (pc' := 36) rfl rfl ?_
  refine w_ldc X7 hx hZ hown (hw _ (List.mem_of_getElem? (i := 2) rfl)) (hb hby at_36) (pc' := 38) rfl ?_
  refine w_iastore X7 hx hZ e7 V7 (by decide) (by show _ < 16; decide) (hb hby at_38) (pc' := 39) rfl (fun T8 h8 X8 e8 W8 V8 => ?_)
  have V8 : AI Z h8 b1 .int [(0 : Int32), (9 : Int32), (10 : Int32), (13 : Int32), (32 : Int32), (55295 : Int32), (55296 : Int32), (0 : Int32), (0 : Int32), (0 : Int32), (0 : Int32), (0 : Int32), (0 : Int32), (0 : Int32), (0 : Int32), (0 : Int32)] := V8
  have N8 := Fr.snoc X8 N7 g_b1
  have zn8 : n0 ≤ h8.size := by rw [W8.size]; exact zn7
  refine w_dup X8 hx (hb hby at_39) (pc' := 40) rfl rfl ?_
  refine w_bipush (v := 7) X8 hx (hb hby at_40) (pc' := 42) rfl rfl ?_
  refine w_ldc X8 hx hZ hown (hw _ (List.mem_of_getElem? (i := 3) rfl)) (hb hby at_42) (pc' := 44) rfl ?_
  refine w_iastore X8 hx hZ e8 V8 (by decide) (by show _ < 16; decide) (hb hby at_44) (pc' := 45) rfl (fun T9 h9 X9 e9 W9 V9 => ?_)
  have V9 : AI Z h9 b1 .int [(0 : Int32), (9 : Int32), (10 : Int32), (13 : Int32), (32 : Int32), (55295 : Int32), (55296 : Int32), (57343 : Int32), (0 : Int32), (0 : Int32), (0 : Int32), (0 : Int32), (0 : Int32), (0 : Int32), (0 : Int32), (0 : Int32)] := V9
  have N9 := Fr.snoc X9 N8 g_b1
  have zn9 : n0 ≤ h9.size := by rw [W9.size]; exact zn8
  refine w_dup X9 hx (hb hby at_45) (pc' := 46) rfl rfl ?_
  refine w_bipush (v := 8) X9 hx (hb hby at_46) (pc' := 48) rfl rfl ?_
  refine w_ldc X9 hx hZ hown (hw _ (List.mem_of_getElem? (i := 4) rfl)) (hb hby at_48) (pc' := 50) rfl ?_
  refine w_iastore X9 hx hZ e9 V9 (by decide) (by show _ < 16; decide) (hb hby at_50) (pc' := 51) rfl (fun T10 h10 X10 e10 W10 V10 => ?_)
  have V10 : AI Z h10 b1 .int [(0 : Int32), (9 : Int32), (10 : Int32), (13 : Int32), (32 : Int32), (55295 : Int32), (55296 : Int32), (57343 : Int32), (57344 : Int32), (0 : Int32), (0 : Int32), (0 : Int32), (0 : Int32), (0 : Int32), (0 : Int32), (0 : Int32)] := V10
  have N10 := Fr.snoc X10 N9 g_b1
  have zn10 : n0 ≤ h10.size := by rw [W10.size]; exact zn9
  refine w_dup X10 hx (hb hby at_51) (pc' := 52) rfl rfl ?_
  refine w_bipush (v := 9) X10 hx (hb hby at_52) (pc' := 54) rfl rfl ?_
  refine w_ldc X10 hx hZ hown (hw _ (List.mem_of_getElem? (i := 5) rfl)) (hb hby at_54) (pc' := 56) rfl ?_
  refine w_iastore X10 hx hZ e10 V10 (by decide) (by show _ < 16; decide) (hb hby at_56) (pc' := 57) rfl (fun T11 h11 X11 e11 W11 V11 => ?_)
  have V11 : AI Z h11 b1 .int [(0 : Int32), (9 : Int32), (10 : Int32), (13 : Int32), (32 : Int32), (55295 : Int32), (55296 : Int32), (57343 : Int32), (57344 : Int32), (65533 : Int32), (0 : Int32), (0 : Int32), (0 : Int32), (0 : Int32), (0 : Int32), (0 : Int32)] := V11
  have N11 := Fr.snoc X11 N10 g_b1
  have zn11 : n0 ≤ h11.size := by rw [W11.size]; exact zn10
  refine w_dup X11 hx (hb hby at_57) (pc' := 58) rfl rfl ?_
  refine w_bipush (v := 10) X11 hx (hb hby at_58) (pc' := 60) rfl rfl ?_
  refine w_ldc X11 hx hZ hown (hw _ (List.mem_of_getElem? (i := 6) rfl)) (hb hby at_60) (pc' := 62) rfl ?_
  refine w_iastore X11 hx hZ e11 V11 (by decide) (by show _ < 16; decide) (hb hby at_62) (pc' := 63) rfl (fun T12 h12 X12 e12 W12 V12 => ?_)
  have V12 : AI Z h12 b1 .int [(0 : Int32), (9 : Int32), (10 : Int32), (13 : Int32), (32 : Int32), (55295 : Int32), (55296 : Int32), (57343 : Int32), (57344 : Int32), (65533 : Int32), (65534 : Int32), (0 : Int32), (0 : Int32), (0 : Int32), (0 : Int32), (0 : Int32)] := V12
  have N12 := Fr.snoc X12 N11 g_b1
  have zn12 : n0 ≤ h12.size := by rw [W12.size]; exact zn11
  refine w_dup X12 hx (hb hby at_63) (pc' := 64) rfl rfl ?_
  refine w_bipush (v := 11) X12 hx (hb hby at_64) (pc' := 66) rfl rfl ?_
  refine w_ldc X12 hx hZ hown (hw _ (List.mem_of_getElem? (i := 7) rfl)) (hb hby at_66) (pc' := 68) rfl ?_
  refine w_iastore X12 hx hZ e12 V12 (by decide) (by show _ < 16; decide) (hb hby at_68) (pc' := 69) rfl (fun T13 h13 X13 e13 W13 V13 => ?_)
  have V13 : AI Z h13 b1 .int [(0 : Int32), (9 : Int32), (10 : Int32), (13 : Int32), (32 : Int32), (55295 : Int32), (55296 : Int32), (57343 : Int32), (57344 : Int32), (65533 : Int32), (65534 : Int32), (65536 : Int32), (0 : Int32), (0 : Int32), (0 : Int32), (0 : Int32)] := V13
  have N13 := Fr.snoc X13 N12 g_b1
  have zn13 : n0 ≤ h13.size := by rw [W13.size]; exact zn12
  refine w_dup X13 hx (hb hby at_69) (pc' := 70) rfl rfl ?_
  refine w_bipush (v := 12) X13 hx (hb hby at_70) (pc' := 72) rfl rfl ?_
  refine w_ldc X13 hx hZ hown (hw _ (List.mem_of_getElem? (i := 8) rfl)) (hb hby at_72) (pc' := 74) rfl ?_
  refine w_iastore X13 hx hZ e13 V13 (by decide) (by show _ < 16; decide) (hb hby at_74) (pc' := 75) rfl (fun T14 h14 X14 e14 W14 V14 => ?_)
  have V14 : AI Z h14 b1 .int [(0 : Int32), (9 : Int32), (10 : Int32), (13 : Int32), (32 : Int32), (55295 : Int32), (55296 : Int32), (57343 : Int32), (57344 : Int32), (65533 : Int32), (65534 : Int32), (65536 : Int32), (1114111 : Int32), (0 : Int32), (0 : Int32), (0 : Int32)] := V14
  have N14 := Fr.snoc X14 N13 g_b1
  have zn14 : n0 ≤ h14.size := by rw [W14.size]; exact zn13
  refine w_dup X14 hx (hb hby at_75) (pc' := 76) rfl rfl ?_
  refine w_bipush (v := 13) X14 hx (hb hby at_76) (pc' := 78) rfl rfl ?_
  refine w_ldc X14 hx hZ hown (hw _ (List.mem_of_getElem? (i := 9) rfl)) (hb hby at_78) (pc' := 80) rfl ?_
  refine w_iastore X14 hx hZ e14 V14 (by decide) (by show _ < 16; decide) (hb hby at_80) (pc' := 81) rfl (fun T15 h15 X15 e15 W15 V15 => ?_)
  have V15 : AI Z h15 b1 .int [(0 : Int32), (9 : Int32), (10 : Int32), (13 : Int32), (32 : Int32), (55295 : Int32), (55296 : Int32), (57343 : Int32), (57344 : Int32), (65533 : Int32), (65534 : Int32), (65536 : Int32), (1114111 : Int32), (-2147483648 : Int32), (0 : Int32), (0 : Int32)] := V15
  have N15 := Fr.snoc X15 N14 g_b1
  have zn15 : n0 ≤ h15.size := by rw [W15.size]; exact zn14
  refine w_dup X15 hx (hb hby at_81) (pc' := 82) rfl rfl ?_
  refine w_bipush (v := 14) X15 hx (hb hby at_82) (pc' := 84) rfl rfl ?_
  refine w_ldc X15 hx hZ hown (hw _ (List.mem_of_getElem? (i := 10) rfl)) (hb hby at_84) (pc' := 86) rfl ?_
  refine w_iastore X15 hx hZ e15 V15 (by decide) (by show _ < 16; decide) (hb hby at_86) (pc' := 87) rfl (fun T16 h16 X16 e16 W16 V16 => ?_)
  have V16 : AI Z h16 b1 .int [(0 : Int32), (9 : Int32), (10 : Int32), (13 : Int32), (32 : Int32), (55295 : Int32), (55296 : Int32), (57343 : Int32), (57344 : Int32), (65533 : Int32), (65534 : Int32), (65536 : Int32), (1114111 : Int32), (-2147483648 : Int32), (2147483647 : Int32), (0 : Int32)] := V16
  have N16 := Fr.snoc X16 N15 g_b1
  have zn16 : n0 ≤ h16.size := by rw [W16.size]; exact zn15
  refine w_dup X16 hx (hb hby at_87) (pc' := 88) rfl rfl ?_
  refine w_bipush (v := 15) X16 hx (hb hby at_88) (pc' := 90) rfl rfl ?_
  refine w_iconst (v := 0) X16 hx (hb hby at_90) (pc' := 91) rfl rfl ?_
  refine w_iastore X16 hx hZ e16 V16 (by decide) (by show _ < 16; decide) (hb hby at_91) (pc' := 92) rfl (fun T17 h17 X17 e17 W17 V17 => ?_)
  have V17 : AI Z h17 b1 .int [(0 : Int32), (9 : Int32), (10 : Int32), (13 : Int32), (32 : Int32), (55295 : Int32), (55296 : Int32), (57343 : Int32), (57344 : Int32), (65533 : Int32), (65534 : Int32), (65536 : Int32), (1114111 : Int32), (-2147483648 : Int32), (2147483647 : Int32), (0 : Int32)] := V17
  have N17 := Fr.snoc X17 N16 g_b1
  have zn17 : n0 ≤ h17.size := by rw [W17.size]; exact zn16
  refine w_astoreN (Ls' := #[.val (.int x0), .val (.int x1), .val (.int x2), .val (.ref b1), .unset, .unset, .unset]) X17 hx (hb hby at_92) (pc' := 93) rfl rfl rfl ?_
  refine w_iloadN X17 hx (hb hby at_93) (pc' := 94) rfl rfl ?_
  refine w_bipush (v := 15) X17 hx (hb hby at_94) (pc' := 96) rfl rfl ?_
  refine w_iand X17 hx (hb hby at_96) (pc' := 97) rfl ?_
  refine w_istore (Ls' := #[.val (.int x0), .val (.int x1), .val (.int x2), .val (.ref b1), .val (.int (x1 &&& (15 : Int32))), .unset, .unset]) X17 hx (hb hby at_97) (pc' := 99) rfl rfl ?_
  obtain ⟨sx, hsx⟩ : ∃ z : Int32, z = (x1 &&& (15 : Int32)) := ⟨_, rfl⟩
  rw [← hsx]
  refine w_iloadN X17 hx (hb hby at_99) (pc' := 100) rfl rfl ?_
  refine w_bipush (v := 7) X17 hx (hb hby at_100) (pc' := 102) rfl rfl ?_
  refine w_iand X17 hx (hb hby at_102) (pc' := 103) rfl ?_
  refine w_iconst (v := 4) X17 hx (hb hby at_103) (pc' := 104) rfl rfl ?_
  refine w_isub X17 hx (hb hby at_104) (pc' := 105) rfl ?_
  refine w_istore (Ls' := #[.val (.int x0), .val (.int x1), .val (.int x2), .val (.ref b1), .val (.int sx), .val (.int ((x2 &&& (7 : Int32)) - (4 : Int32))), .unset]) X17 hx (hb hby at_105) (pc' := 107) rfl rfl ?_
  refine w_iload X17 hx (hb hby at_107) (pc' := 109) rfl rfl ?_
  refine w_bipush (v := 15) X17 hx (hb hby at_109) (pc' := 111) rfl rfl ?_
  refine w_icmp_ne X17 hx (hb hby at_111) (pf := 114) (pt := 120) rfl (by decide) (by decide) (fun hc111 => ?_) (fun hc111 => ?_)
  · refine w_aloadN X17 hx (hb hby at_120) (pc' := 121) rfl rfl rfl ?_
    refine w_iload X17 hx (hb hby at_121) (pc' := 123) rfl rfl ?_
    refine w_iaload X17 hx hZ e17 V17 (v := ([(0 : Int32), (9 : Int32), (10 : Int32), (13 : Int32), (32 : Int32), (55295 : Int32), (55296 : Int32), (57343 : Int32), (57344 : Int32), (65533 : Int32), (65534 : Int32), (65536 : Int32), (1114111 : Int32), (-2147483648 : Int32), (2147483647 : Int32), (0 : Int32)].getD (sx).toNatClampNeg 0)) (own_idx hsx).1 (own_getD (own_idx hsx).2) (hb hby at_123) (pc' := 124) rfl ?_
    refine w_iload X17 hx (hb hby at_124) (pc' := 126) rfl rfl ?_
    refine w_iadd X17 hx (hb hby at_126) (pc' := 127) rfl ?_
    refine w_istore (Ls' := #[.val (.int x0), .val (.int x1), .val (.int x2), .val (.ref b1), .val (.int sx), .val (.int ((x2 &&& (7 : Int32)) - (4 : Int32))), .val (.int (([(0 : Int32), (9 : Int32), (10 : Int32), (13 : Int32), (32 : Int32), (55295 : Int32), (55296 : Int32), (57343 : Int32), (57344 : Int32), (65533 : Int32), (65534 : Int32), (65536 : Int32), (1114111 : Int32), (-2147483648 : Int32), (2147483647 : Int32), (0 : Int32)].getD (sx).toNatClampNeg 0) + ((x2 &&& (7 : Int32)) - (4 : Int32))))]) X17 hx (hb hby at_127) (pc' := 129) rfl rfl ?_
    obtain ⟨cc, hcc⟩ : ∃ z : Int32, z = (([(0 : Int32), (9 : Int32), (10 : Int32), (13 : Int32), (32 : Int32), (55295 : Int32), (55296 : Int32), (57343 : Int32), (57344 : Int32), (65533 : Int32), (65534 : Int32), (65536 : Int32), (1114111 : Int32), (-2147483648 : Int32), (2147483647 : Int32), (0 : Int32)].getD (sx).toNatClampNeg 0) + ((x2 &&& (7 : Int32)) - (4 : Int32))) := ⟨_, rfl⟩
    rw [← hcc]
    refine w_iload X17 hx (hb hby at_129) (pc' := 131) rfl rfl ?_
    refine w_callS (argsL := [(.int cc)]) (rest := []) X17 hx hZ hown e17 (rm1 l Z a0 hw cc h17 n0) (hw _ (List.mem_of_getElem? (i := 11) rfl)) (hw _ (List.mem_of_getElem? (i := 12) rfl)) (hw _ (List.mem_of_getElem? (i := 13) rfl)) (hw _ (List.mem_of_getElem? (i := 14) rfl)) (by decide) (by decide) (W := 0) (by decide) (by decide) (by decide) (by rw [hml]; rfl) (lenOf pd_0 rfl) (Nat.le_refl _) rfl (hb hby at_131) (pc' := 134) rfl (fun T18 L18 v18 X18 hQ18 => ?_)
    obtain ⟨rfl, N18q, e18⟩ := hQ18
    have N18 := Fr.app N17 N18q
    have X18 : Stand p l e room_1 s m _ below meth c T18 _ 1 16 := X18
    show Go p e below s room_1.cells room_1.slots (QL (some (.int 1)) n0) T18 (mkF m 134 #[.val (.int x0), .val (.int x1), .val (.int x2), .val (.ref b1), .val (.int sx), .val (.int ((x2 &&& (7 : Int32)) - (4 : Int32))), .val (.int cc)] [(.int (K1_0 cc))])
    refine w_iload X18 hx (hb hby at_134) (pc' := 136) rfl rfl ?_
    refine w_callS (argsL := [(.int cc)]) (rest := [(.int (K1_0 cc))]) X18 hx hZ hown e18 (rm2 l Z a0 hw cc h17 n0) (hw _ (List.mem_of_getElem? (i := 15) rfl)) (hw _ (List.mem_of_getElem? (i := 16) rfl)) (hw _ (List.mem_of_getElem? (i := 17) rfl)) (hw _ (List.mem_of_getElem? (i := 18) rfl)) (by decide) (by decide) (W := 1) (by decide) (by decide) (by decide) (by rw [hml]; rfl) (lenOf pd_0 rfl) (Nat.le_refl _) rfl (hb hby at_136) (pc' := 139) rfl (fun T19 L19 v19 X19 hQ19 => ?_)
    obtain ⟨rfl, N19q, e19⟩ := hQ19
    have N19 := Fr.app N18 N19q
    have X19 : Stand p l e room_1 s m _ below meth c T19 _ 1 16 := X19
    show Go p e below s room_1.cells room_1.slots (QL (some (.int 1)) n0) T19 (mkF m 139 #[.val (.int x0), .val (.int x1), .val (.int x2), .val (.ref b1), .val (.int sx), .val (.int ((x2 &&& (7 : Int32)) - (4 : Int32))), .val (.int cc)] [(.int (K2_0 cc)), (.int (K1_0 cc))])
    have hf139 : (K1_0 cc) = (K2_0 cc) := own_same _
    refine w_icmp_ne X19 hx (hb hby at_139) (pf := 142) (pt := 146) rfl (by decide) (by decide) (fun hc => absurd hf139 hc) (fun hc139 => ?_)
    refine w_iconst (v := 1) X19 hx (hb hby at_142) (pc' := 143) rfl rfl ?_
    refine w_goto X19 hx (hb hby at_143) (pc' := 147) (by decide) (by decide) ?_
    exact w_retZ X19 hx hret hlk (hb hby at_147) (by decide) (by decide) ⟨rfl, N19⟩
  · refine w_iloadN X17 hx (hb hby at_114) (pc' := 115) rfl rfl ?_
    refine w_istore (Ls' := #[.val (.int x0), .val (.int x1), .val (.int x2), .val (.ref b1), .val (.int sx), .val (.int ((x2 &&& (7 : Int32)) - (4 : Int32))), .val (.int x0)]) X17 hx (hb hby at_115) (pc' := 117) rfl rfl ?_
    refine w_goto X17 hx (hb hby at_117) (pc' := 129) (by decide) (by decide) ?_
    refine w_iload X17 hx (hb hby at_129) (pc' := 131) rfl rfl ?_
    refine w_callS (argsL := [(.int x0)]) (rest := []) X17 hx hZ hown e17 (rm1 l Z a0 hw x0 h17 n0) (hw _ (List.mem_of_getElem? (i := 11) rfl)) (hw _ (List.mem_of_getElem? (i := 12) rfl)) (hw _ (List.mem_of_getElem? (i := 13) rfl)) (hw _ (List.mem_of_getElem? (i := 14) rfl)) (by decide) (by decide) (W := 0) (by decide) (by decide) (by decide) (by rw [hml]; rfl) (lenOf pd_0 rfl) (Nat.le_refl _) rfl (hb hby at_131) (pc' := 134) rfl (fun T20 L20 v20 X20 hQ20 => ?_)
    obtain ⟨rfl, N20q, e20⟩ := hQ20
    have N20 := Fr.app N17 N20q
    have X20 : Stand p l e room_1 s m _ below meth c T20 _ 1 16 := X20
    show Go p e below s room_1.cells room_1.slots (QL (some (.int 1)) n0) T20 (mkF m 134 #[.val (.int x0), .val (.int x1), .val (.int x2), .val (.ref b1), .val (.int sx), .val (.int ((x2 &&& (7 : Int32)) - (4 : Int32))), .val (.int x0)] [(.int (K1_0 x0))])
    refine w_iload X20 hx (hb hby at_134) (pc' := 136) rfl rfl ?_
    refine w_callS (argsL := [(.int x0)]) (rest := [(.int (K1_0 x0))]) X20 hx hZ hown e20 (rm2 l Z a0 hw x0 h17 n0) (hw _ (List.mem_of_getElem? (i := 15) rfl)) (hw _ (List.mem_of_getElem? (i := 16) rfl)) (hw _ (List.mem_of_getElem? (i := 17) rfl)) (hw _ (List.mem_of_getElem? (i := 18) rfl)) (by decide) (by decide) (W := 1) (by decide) (by decide) (by decide) (by rw [hml]; rfl) (lenOf pd_0 rfl) (Nat.le_refl _) rfl (hb hby at_136) (pc' := 139) rfl (fun T21 L21 v21 X21 hQ21 => ?_)
    obtain ⟨rfl, N21q, e21⟩ := hQ21
    have N21 := Fr.app N20 N21q
    have X21 : Stand p l e room_1 s m _ below meth c T21 _ 1 16 := X21
    show Go p e below s room_1.cells room_1.slots (QL (some (.int 1)) n0) T21 (mkF m 139 #[.val (.int x0), .val (.int x1), .val (.int x2), .val (.ref b1), .val (.int sx), .val (.int ((x2 &&& (7 : Int32)) - (4 : Int32))), .val (.int x0)] [(.int (K2_0 x0)), (.int (K1_0 x0))])
    have hf139 : (K1_0 x0) = (K2_0 x0) := own_same _
    refine w_icmp_ne X21 hx (hb hby at_139) (pf := 142) (pt := 146) rfl (by decide) (by decide) (fun hc => absurd hf139 hc) (fun hc139 => ?_)
    refine w_iconst (v := 1) X21 hx (hb hby at_142) (pc' := 143) rfl rfl ?_
    refine w_goto X21 hx (hb hby at_143) (pc' := 147) (by decide) (by decide) ?_
    exact w_retZ X21 hx hret hlk (hb hby at_147) (by decide) (by decide) ⟨rfl, N21⟩
set_option maxRecDepth 65536 in
set_option maxHeartbeats 40000000 in
theorem comes_1 {Post : Tables → Env → Array Value → State → Outcome → State → Prop} (hpost : ∀ tb e args s v u, (limb_1_1.after args s (.returned v) u = true ∧ limb_1_2.after args s (.returned v) u = true ∧ True) → FrameEnd s (.returned v) u (Jvm.fieldLocs frame_1_writes args s ++ Jvm.arrayLocs frame_1_arrays args s ++ Jvm.staticLocs frame_1_statics s) 16 128 → Post tb e args s (.returned v) u) :
    ArmFor flags0 classFile x code maxLocals ret World_1 tables_1 room_1 Calls_1 rest_1 Pre_1 Post := by
  intro l hfl _ _ p e ha hc hk s m args below hf hA hF happ hP
  obtain ⟨hcalls, hrest, hpre⟩ := hP
  obtain ⟨-, -, -, hnamed, -, -, -, hat⟩ := (Spec.applies_iff hf).mp happ
  obtain ⟨hg, hn⟩ := and_e (Cond.before_iff.mp (show (Jvm.Cond.and given_1 narrow_1).before args s = true from hpre))
  obtain ⟨g1, g2⟩ := and_e hg
  obtain ⟨g3, g4⟩ := and_e g2
  obtain ⟨g5, g6⟩ := and_e g4
  obtain ⟨w0, w1, w2, rfl⟩ : ∃ w0 w1 w2 : Value, args = #[w0, w1, w2] := by
    have hs : args.size = 3 := by simpa [Cond.value, given_1] using g1
    obtain ⟨L⟩ := args
    match L, hs with
    | [w0, w1, w2], _ => exact ⟨w0, w1, w2, rfl⟩
  have hw := fun d (hd : d ∈ tables_1) => atoms_spec (ws := Jvm.Cond.code x code maxLocals ret :: tables_1) hat d (List.mem_cons_of_mem _ hd)
  obtain ⟨i0, ei0⟩ := is_v g3
  obtain rfl : w0 = (.int i0) := Option.some.inj ei0
  obtain ⟨i1, ei1⟩ := is_v g5
  obtain rfl : w1 = (.int i1) := Option.some.inj ei1
  obtain ⟨i2, ei2⟩ := is_v g6
  obtain rfl : w2 = (.int i2) := Option.some.inj ei2
  have C := rm0 l s _ hw i0 i1 i2 s.heap s.heap.size (Nat.le_refl _)
  obtain ⟨n, o, h1, h2, h3, v, L, rfl, ⟨rfl, N⟩, hq⟩ := C tables_1 p e ha hc hk s m _ below hf ((Spec.applies_iff_loose hf).mp happ).1 ⟨rfl, State.Warmed39.refl s, rfl⟩ trivial
  refine ⟨n, _, h1, h2, h3, hpost _ _ _ _ _ _ ⟨Cond.after_iff.mpr rfl, Cond.after_iff.mpr (eq_i res_at (Term.int_eval (1)) rfl), trivial⟩ ⟨hq.1, hq.2.1, (hq.2.2.sift fun y hy => Or.inr (N y hy)).mono (by decide) (by decide)⟩⟩
theorem main_1_1 : Claimed_1_1 := comes_1 fun _ _ _ _ _ _ h hF => ⟨h.1, hF⟩
theorem main_1_2 : Claimed_1_2 := comes_1 fun _ _ _ _ _ _ h hF => ⟨h.2.1, hF⟩
end Jvm.Pilot.@@N@@
namespace Jvm.Pilot.@@N@@
open Jvm Jvm.ClassFile Sem Op Lib Jvm.Free Jvm.Stand Jvm.Pilot.@@N@@.Jvm.D
/-! MADE BY PROGRAM (witnessworld.py) out of the Statement's table words and the real class files: 9 classes; the members and pool entries that the words name. The judged class is class 1, her method 2. -/
namespace start1
open Jvm.ClassFile
def u (s : String) : CpInfo := .utf8 (stringToUtf16 s)
/-- a pool by its gaps: so many unusable entries, then the entry; so many at the end -/
def gap : Nat → List CpInfo → List CpInfo
  | 0, r => r
  | n + 1, r => .unusable :: gap n r
def poolList (es : List (Nat × CpInfo)) (last : Nat) : List CpInfo := es.foldr (fun e r => gap e.1 (e.2 :: r)) (gap last [])
def pool (es : List (Nat × CpInfo)) (last : Nat) : Array CpInfo := ⟨poolList es last⟩
def fileOf (pool : Array CpInfo) (this : Nat) (attrs : Array Attribute := #[]) (ms : Array MethodInfo := #[]) (fl : Nat := 33) (sup : Nat := 0) (ifs : Array Nat := #[]) (fds : Array FieldInfo := #[]) : ClassFile where
  minorVersion := 0
  majorVersion := 65
  constantPool := pool
  accessFlags := fl
  thisClass := this
  superClass := sup
  interfaces := ifs
  fields := fds
  methods := ms
  attributes := attrs
def plain (name : String) (sup : Option ClassId) : Class where
  name := name
  kind := .ordinary
  loader := none
  accessFlags := 33
  super := sup
  interfaces := #[]
  cf := none
  fields := #[]
  methods := #[]
  instanceTypes := #[]
  staticTypes := #[]
  resolved := #[]
  callSites := []
  init := .initialized
  statics := none
  mirror := none

def pool0 : Array CpInfo := pool [(5, u "<init>"), (0, u "()V"), (1, .class_ 10), (1, u "java/lang/Object")] 113

def k0m0 : Method := { name := "<init>", desc := "()V", sig := { parameters := [], returnType := none }, accessFlags := 1, code := none }
/-- java/lang/Object -/
def k0 : Class := { plain "java/lang/Object" none with
  accessFlags := 33
  interfaces := #[]
  cf := some (fileOf pool0 8 #[] #[{ accessFlags := 1, nameIndex := 5, descriptorIndex := 6, attributes := #[] }] 33 0 #[] #[])
  fields := #[]
  methods := #[k0m0]
  instanceTypes := #[]
  staticTypes := #[]
  resolved := Array.replicate 124 none
  statics := none }

def pool1 : Array CpInfo := pool [(2, .class_ 4), (1, u "java/lang/Object"), (0, u "<init>"), (0, u "()V"), (0, .integer 1114111), (0, .integer 55296), (0, .integer 57343), (0, .integer 65534), (0, .integer 65535), (0, .integer 55295), (0, .integer 57344), (0, .integer 65533), (0, .integer 65536), (2, .integer 2147483648), (0, .integer 2147483647), (0, .methodref 21 22), (0, .class_ 23), (0, .nameAndType 24 25), (0, u "com/example/corelint/corelint/XmlChars"), (0, u "isChar"), (0, u "(I)Z"), (0, .methodref 27 28), (0, .class_ 29), (0, .nameAndType 30 25), (0, u "com/example/corelint/corelint/XmlCharsIsCharPinLaw"), (0, u "expected"), (3, u "law"), (0, u "(III)Z")] 4

def k1m0 : Method := { name := "<init>", desc := "()V", sig := { parameters := [], returnType := none }, accessFlags := 2, code := none }
def k1c1 : Code := { maxStack := 2, maxLocals := 5, code := method_2_code, exceptionTable := #[], attributes := #[] }
def k1m1 : Method := { name := "expected", desc := "(I)Z", sig := { parameters := [.int], returnType := some .boolean }, accessFlags := 10, code := some k1c1 }
def k1c2 : Code := { maxStack := 4, maxLocals := 7, code := code, exceptionTable := #[], attributes := #[] }
def k1m2 : Method := { name := "law", desc := "(III)Z", sig := { parameters := [.int, .int, .int], returnType := some .boolean }, accessFlags := 9, code := some k1c2 }
/-- com/example/corelint/corelint/XmlCharsIsCharPinLaw -/
def k1 : Class := { plain "com/example/corelint/corelint/XmlCharsIsCharPinLaw" (some 0) with
  accessFlags := 49
  interfaces := #[]
  cf := some (fileOf pool1 27 #[] #[{ accessFlags := 2, nameIndex := 5, descriptorIndex := 6, attributes := #[] }, { accessFlags := 10, nameIndex := 30, descriptorIndex := 25, attributes := #[] }, { accessFlags := 9, nameIndex := 34, descriptorIndex := 35, attributes := #[] }] 49 2 #[] #[])
  fields := #[]
  methods := #[k1m0, k1m1, k1m2]
  instanceTypes := #[]
  staticTypes := #[]
  resolved := Array.replicate 40 none
  statics := none }

def pool2 : Array CpInfo := pool [(2, .class_ 4), (1, u "java/lang/Object"), (0, u "<init>"), (0, u "()V"), (0, .integer 55295), (0, .integer 57344), (0, .integer 65533), (0, .integer 65536), (0, .class_ 12), (0, u "com/example/corelint/corelint/XmlChars"), (0, .integer 1114111), (7, u "(I)Z"), (0, u "LAST_CODE_POINT"), (0, u "I"), (6, u "isChar")] 3

def k2m0 : Method := { name := "<init>", desc := "()V", sig := { parameters := [], returnType := none }, accessFlags := 2, code := none }
def k2c1 : Code := { maxStack := 2, maxLocals := 2, code := prog_51_method_3_code, exceptionTable := #[], attributes := #[] }
def k2m1 : Method := { name := "isChar", desc := "(I)Z", sig := { parameters := [.int], returnType := some .boolean }, accessFlags := 8, code := some k2c1 }
/-- com/example/corelint/corelint/XmlChars -/
def k2 : Class := { plain "com/example/corelint/corelint/XmlChars" (some 0) with
  accessFlags := 48
  interfaces := #[]
  cf := some (fileOf pool2 11 #[] #[{ accessFlags := 2, nameIndex := 5, descriptorIndex := 6, attributes := #[] }, { accessFlags := 8, nameIndex := 30, descriptorIndex := 21, attributes := #[] }] 48 2 #[] #[{ accessFlags := 26, nameIndex := 22, descriptorIndex := 23, attributes := #[] }])
  fields := #[{ name := "LAST_CODE_POINT", type := .int, accessFlags := 26, slot := 0, constantValue := 0 }]
  methods := #[k2m0, k2m1]
  instanceTypes := #[]
  staticTypes := #[.int]
  resolved := Array.replicate 34 none
  statics := none }

def pool3 : Array CpInfo := pool [(1, u "java/lang/Cloneable"), (0, .class_ 1), (0, u "java/lang/Object"), (0, .class_ 3)] 3

/-- java/lang/Cloneable -/
def k3 : Class := { plain "java/lang/Cloneable" (some 0) with
  accessFlags := 1537
  interfaces := #[]
  cf := some (fileOf pool3 2 #[] #[] 1537 4 #[] #[])
  fields := #[]
  methods := #[]
  instanceTypes := #[]
  staticTypes := #[]
  resolved := Array.replicate 8 none
  statics := none }

def pool4 : Array CpInfo := pool [(1, u "java/io/Serializable"), (0, .class_ 1), (0, u "java/lang/Object"), (0, .class_ 3)] 3

/-- java/io/Serializable -/
def k4 : Class := { plain "java/io/Serializable" (some 0) with
  accessFlags := 1537
  interfaces := #[]
  cf := some (fileOf pool4 2 #[] #[] 1537 4 #[] #[])
  fields := #[]
  methods := #[]
  instanceTypes := #[]
  staticTypes := #[]
  resolved := Array.replicate 8 none
  statics := none }

/-- the primitive byte -/
def k5 : Class := { plain "byte" none with kind := .primitive 'B', accessFlags := 0x411 }
/-- [B -/
def k6 : Class := { plain "[B" (some 0) with kind := .array 5 .byte, interfaces := #[3, 4], accessFlags := 1041 }

/-- the primitive int -/
def k7 : Class := { plain "int" none with kind := .primitive 'I', accessFlags := 0x411 }
/-- [I -/
def k8 : Class := { plain "[I" (some 0) with kind := .array 7 .int, interfaces := #[3, 4], accessFlags := 1041 }

def heap : Heap := #[]
def classes : Array Class := #[k0, k1, k2, k3, k4, k5, k6, k7, k8]
def interned : List (Array UInt16 × Addr) := []
def slotsUsed : Nat := 0
def theMethod : MethodId := ⟨1, 2⟩
def args0 : Array Value := #[.int 3, .int 4, .int 5]
def aboutOver (below : List Frame) : State where
  vm := { classes := classes, interned := interned.toArray }
  heap := heap
  slotsUsed := slotsUsed
  threads := #[{ frames := .invoking theMethod args0 :: below }]
def below0 : List Frame := [.native { method := ⟨0, 0⟩, args := #[] }]
def about1 : State := aboutOver below0
def p0 : Program := .bare "" "" ""
def e0 : Env := launch0.env 0 0 0
theorem w_frames : about1.frames = Frame.invoking theMethod args0 :: below0 := rfl
set_option maxRecDepth 65536 in
theorem w_args : argsFit about1.vm theMethod args0 = true := by decide +kernel
set_option maxRecDepth 65536 in
theorem w_heap : heapFits about1 = true := by decide +kernel
set_option maxRecDepth 65536 in
theorem w_runnable : about1.curStatus? = some .runnable := by decide +kernel
set_option maxRecDepth 65536 in
theorem w_alone : about1.alone = true := by decide +kernel
set_option maxRecDepth 65536 in
theorem w_named : about1.methodNamed? x = some theMethod := by decide +kernel
set_option maxRecDepth 65536 in
theorem w_hears : about1.hears theMethod below0 = true := by decide +kernel
set_option maxRecDepth 65536 in
theorem w_ripe : about1.ripe theMethod args0 below0 = true := by decide +kernel
theorem w_running : about1.status = .running := rfl
set_option maxRecDepth 65536 in
theorem w_room : about1.hasRoom e0.platform room_1 = true :=
  launch0.hasRoom_least _ room_1 (by decide +kernel) (by decide +kernel) (by decide +kernel) (by decide +kernel) (by decide +kernel) (by decide +kernel)
theorem allAtoms_all (ts : List Jvm.Cond) (a : Array Jvm.Value) (st : Jvm.State) : (allAtoms ts).before a st = ts.all (fun c => c.before a st) := by
  induction ts with
  | nil => rfl
  | cons c t ih =>
    show (Jvm.Cond.and c (allAtoms t)).before a st = _
    rw [Jvm.Cond.before_and, ih, List.all_cons]
def words1 : List Jvm.Cond := Jvm.Cond.code x code maxLocals ret :: tables_1
/-- a 'code' word, met by the world's own term for the bytes: nothing is compared byte by byte -/
theorem code_word {y : MethodName} {bytes : ByteArray} {mx : Nat} {rt : Option FieldType} {a : Array Value} {s : State} {m : MethodId} {meth : Method} {c : Code} (h1 : s.methodNamed? y = some m) (h2 : s.vm.method? m = some meth) (h3 : meth.code = some c) (h4 : c.code = bytes)
    (h5 : (c.maxLocals == mx && c.exceptionTable.isEmpty && decide (c.maxStack ≤ mostOperands) && decide (meth.sig.returnType = rt) && !meth.locks && decide (parseMethodDescriptor y.desc = some meth.sig)) = true) : (Jvm.Cond.code y bytes mx rt).before a s = true := by
  simp only [Bool.and_eq_true, beq_iff_eq, Bool.not_eq_true', decide_eq_true_eq] at h5
  obtain ⟨⟨⟨⟨⟨g1, g2⟩, g3⟩, g4⟩, g5⟩, g6⟩ := h5
  simp [Cond.before, Cond.holds, Cond.value, h1, h2, h3, h4, g1, g2, g3, g4, g5, g6]
def isCode : Jvm.Cond → Bool
  | .code _ _ _ _ => true
  | _ => false
theorem all_split {L : List Jvm.Cond} {P : Jvm.Cond → Bool} (h1 : L.all (fun c => isCode c || P c) = true) (h2 : ∀ c ∈ L.filter isCode, P c = true) : L.all P = true := by
  refine List.all_eq_true.mpr fun c hc => ?_
  have h := List.all_eq_true.mp h1 c hc
  rcases Bool.eq_false_or_eq_true (isCode c) with hi | hi
  · exact h2 c (List.mem_filter.mpr ⟨hc, hi⟩)
  · simpa [hi] using h
set_option maxRecDepth 65536 in
theorem w_c0 : (Jvm.Cond.code x code maxLocals ret).before args0 about1 = true := code_word (m := ⟨1, 2⟩) (meth := k1m2) (c := k1c2) (by decide +kernel) rfl rfl rfl (by decide +kernel)
set_option maxRecDepth 65536 in
theorem w_c1 : (Jvm.Cond.code ({ cls := "com/example/corelint/corelint/XmlChars", name := "isChar", desc := "(I)Z" } : Jvm.MethodName) prog_51_method_3_code (2 : Nat) (Option.some Jvm.ClassFile.FieldType.boolean)).before args0 about1 = true := code_word (m := ⟨2, 1⟩) (meth := k2m1) (c := k2c1) (by decide +kernel) rfl rfl rfl (by decide +kernel)
set_option maxRecDepth 65536 in
theorem w_c2 : (Jvm.Cond.code ({ cls := "com/example/corelint/corelint/XmlCharsIsCharPinLaw", name := "expected", desc := "(I)Z" } : Jvm.MethodName) method_2_code (5 : Nat) (Option.some Jvm.ClassFile.FieldType.boolean)).before args0 about1 = true := code_word (m := ⟨1, 1⟩) (meth := k1m1) (c := k1c1) (by decide +kernel) rfl rfl rfl (by decide +kernel)
def codes1 : List Jvm.Cond := [Jvm.Cond.code x code maxLocals ret, Jvm.Cond.code ({ cls := "com/example/corelint/corelint/XmlChars", name := "isChar", desc := "(I)Z" } : Jvm.MethodName) prog_51_method_3_code (2 : Nat) (Option.some Jvm.ClassFile.FieldType.boolean), Jvm.Cond.code ({ cls := "com/example/corelint/corelint/XmlCharsIsCharPinLaw", name := "expected", desc := "(I)Z" } : Jvm.MethodName) method_2_code (5 : Nat) (Option.some Jvm.ClassFile.FieldType.boolean)]
set_option maxRecDepth 65536 in
theorem codes_eq : words1.filter isCode = codes1 := rfl
theorem w_codes : ∀ c ∈ words1.filter isCode, c.before args0 about1 = true := by
  rw [codes_eq]
  intro c hc
  simp only [codes1, List.mem_cons, List.not_mem_nil, or_false] at hc
  rcases hc with rfl | rfl | rfl
  · exact w_c0
  · exact w_c1
  · exact w_c2
set_option maxRecDepth 65536 in
theorem w_t1 : (words1.take 24).all (fun c => isCode c || c.before args0 about1) = true := by decide +kernel
set_option maxRecDepth 65536 in
theorem w_t2 : (words1.drop 24).all (fun c => isCode c || c.before args0 about1) = true := by decide +kernel
theorem w_tables : (allAtoms (Jvm.Cond.code x code maxLocals ret :: tables_1)).before args0 about1 = true := by
  rw [allAtoms_all]
  show words1.all (fun c => c.before args0 about1) = true
  refine all_split ?_ w_codes
  rw [← List.take_append_drop 24 words1, List.all_append, w_t1, w_t2]
  rfl
set_option maxRecDepth 65536 in
theorem w_case : (Jvm.Cond.and given_1 narrow_1).before args0 about1 = true := by decide +kernel
theorem w_applies : (headSpec (Jvm.Cond.code x code maxLocals ret :: tables_1) room_1).applies x e0.platform about1 = true :=
  (Spec.applies_iff w_frames).mpr ⟨w_running, w_runnable, w_alone, w_named, w_hears, w_ripe, w_room, w_tables⟩
theorem atStart : AtStart classFile x code maxLocals ret World_1 tables_1 room_1 Calls_1 rest_1 Pre_1 launch0 p0 e0 about1 theMethod args0 below0 :=
  ⟨lists_1, trivial, launch0.admits_env _ _ _, launch0.least_env, fairChoices_fair.cas, fairChoices_fair.clock, w_frames, w_args, w_heap, w_applies, trivial, trivial, w_case⟩
end start1
theorem witness_1 : WitnessClaimed_1 := ⟨start1.p0, start1.e0, start1.about1, start1.theMethod, start1.args0, start1.below0, start1.atStart⟩
end Jvm.Pilot.@@N@@
