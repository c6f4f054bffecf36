import JvmDerived
import JvmDerived.Pilot.@@N@@Statement
import JvmDerived.Pilot.@@N@@Code
set_option linter.unusedVariables false
set_option linter.unusedSimpArgs false
@@BLOCK:NumsL.lean.txt@@
namespace Jvm.Pilot.@@N@@
open Jvm Jvm.ClassFile Sem Op Lib Jvm.Free Jvm.Stand Jvm.LawKit Jvm.RoadKit Bundle Jvm.Pilot.@@N@@.Jvm.D
section OwnKit
variable {p : Program} {l : Launch} {e : Env} {R : Room} {s : State} {m : MethodId} {args : Array Value} {below : List Frame} {meth : Method} {c : Code} {T T' : State} {locs : List Loc} {cells slots : Nat} {Z : State} {a0 : Array Value} {h h' : Heap} {cm sm : Nat} {Q : Option Value → Heap → List Loc → Prop} {pc pc' : Nat} {Ls Ls' : Array Slot} {St : List Value}
/-- the walk's goal: from this frame the method comes to its end, and Q holds of what it leaves -/
def Go (p : Program) (e : Env) (below : List Frame) (s : State) (cm sm : Nat) (Q : Option Value → Heap → List Loc → Prop) (T : State) (g : JFrame) : Prop :=
  ∃ s₂ o, Steps p.tables e below (T.setTop g) s₂ ∧ s₂.status = .running ∧ Ended s₂ below o ∧ ∃ v L, o = .returned v ∧ Q v s₂.heap L ∧ FrameEnd s o s₂ L cm sm
theorem Go.st {g g' : JFrame} (q : ∀ t, Steps p.tables e below (T'.setTop g') t → Steps p.tables e below (T.setTop g) t) (k : Go p e below s cm sm Q T' g') : Go p e below s cm sm Q T g := by
  obtain ⟨s₂, o, st, r⟩ := k
  exact ⟨s₂, o, q _ st, r⟩
theorem Go.weak {g : JFrame} {Q' : Option Value → Heap → List Loc → Prop} (k : Go p e below s cm sm Q T g) (q : ∀ v h L, Q v h L → Q' v h L) : Go p e below s cm sm Q' T g := by
  obtain ⟨s₂, o, st, r1, r2, v, L, r3, r4, r5⟩ := k
  exact ⟨s₂, o, st, r1, r2, v, L, r3, q _ _ _ r4, r5⟩
/-- a contract -/
def Con (l : Launch) (Z : State) (y : MethodName) (bytes : ByteArray) (maxL : Nat) (ret : Option FieldType) (rm : Room) (as' : Array Value) (h : Heap) (Q : Option Value → Heap → List Loc → Prop) : Prop :=
  ∀ ws : List Jvm.Cond, MetFree l y (head1 (Jvm.Cond.code y bytes maxL ret :: ws) rm) (fun a U => a = as' ∧ Z.Warmed39 U.vm ∧ U.heap = h) (fun _ _ _ _ _ => True) (fun _ U o U' => ∃ v L, o = .returned v ∧ Q v U'.heap L ∧ FrameEnd U o U' L rm.cells rm.slots)
theorem Con.of {y : MethodName} {bytes : ByteArray} {maxL : Nat} {ret : Option FieldType} {rm : Room} {as' : Array Value} (hpl : plainFor y = true)
    (body : ∀ (p : Program) (e : Env) (s : State) (m : MethodId) (below : List Frame) (meth : Method) (c : Code) (T : State), Stand p l e rm s m as' below meth c T [] 0 0 → p.tables.exec = Jvm.exec → Z.Warmed39 s.vm → c.code = bytes → c.maxLocals = maxL → s.vm.findClass y.cls = some m.cls → meth.name = y.name → meth.sig.returnType = ret → meth.locks = false → T.heap = h → Go p e below s rm.cells rm.slots Q T (entryFrame m as' maxL)) :
    Con l Z y bytes maxL ret rm as' h Q := by
  intro ws
  refine MetFree.of_bodySF hpl hisR ?_
  intro p e s m args below meth c s₁ Bd hml0 hP hK
  obtain ⟨rfl, hZ, hh⟩ := hP
  exact body p e s m below meth c s₁ (Stand.of_body Bd) Bd.exec hZ Bd.bytes hml0 (findClass_of_methodNamed Bd.named) (name_of_methodNamed Bd.named Bd.method).1 Bd.returns Bd.notSynchronized (by rw [← hh, Bd.state]; rfl)
theorem Con.weak {y : MethodName} {bytes : ByteArray} {maxL : Nat} {ret : Option FieldType} {rm : Room} {as' : Array Value} {Q' : Option Value → Heap → List Loc → Prop} (C : Con l Z y bytes maxL ret rm as' h Q) (q : ∀ v h L, Q v h L → Q' v h L) : Con l Z y bytes maxL ret rm as' h Q' := by
  intro ws p e ha hc hk s m args below hf happ hP hK
  obtain ⟨n, o, h1, h2, h3, v, L, r3, r4, r5⟩ := C ws p e ha hc hk s m args below hf happ hP hK
  exact ⟨n, o, h1, h2, h3, v, L, r3, q _ _ _ r4, r5⟩
/-- what a body that writes nothing leaves -/
abbrev QP (v0 : Option Value) (h0 : Heap) (n0 : Nat) : Option Value → Heap → List Loc → Prop := fun v h L => v = v0 ∧ Fr n0 L ∧ h = h0
/-- what a law leaves -/
abbrev QL (v0 : Option Value) (n0 : Nat) : Option Value → Heap → List Loc → Prop := fun v _ L => v = v0 ∧ Fr n0 L
/-- iushr, lushr -/
def jushr (x y : Int32) : Int32 := (x.toUInt32 >>> (y &&& 31).toUInt32).toInt32
def jlushr (x : Int64) (y : Int32) : Int64 := (x.toUInt64 >>> (y &&& 0x3f).toInt64.toUInt64).toInt64
theorem w_iloadN (X : Stand p l e R s m args below meth c T locs cells slots) (hx : p.tables.exec = Jvm.exec) {k : Fin 4} {v : Int32} (hd : decode c.code pc = .ok (.iload_n k, 1)) (hp : pc + 1 = pc') (hl : Ls[k.val]? = some (.val (.int v)))
    (kk : Go p e below s cm sm Q T (mkF m pc' Ls (.int v :: St))) : Go p e below s cm sm Q T (mkF m pc Ls (St)) := by
  subst hp
  exact Go.st (fun t q => XS.iloadN (g := mkF m pc Ls (St)) X.here hx rfl hd hl q) kk
theorem w_iload (X : Stand p l e R s m args below meth c T locs cells slots) (hx : p.tables.exec = Jvm.exec) {k : Nat} {v : Int32} (hd : decode c.code pc = .ok (.iload k, 2)) (hp : pc + 2 = pc') (hl : Ls[k]? = some (.val (.int v)))
    (kk : Go p e below s cm sm Q T (mkF m pc' Ls (.int v :: St))) : Go p e below s cm sm Q T (mkF m pc Ls (St)) := by
  subst hp
  exact Go.st (fun t q => XS.iload (g := mkF m pc Ls (St)) X.here hx rfl hd hl q) kk
theorem w_istoreN (X : Stand p l e R s m args below meth c T locs cells slots) (hx : p.tables.exec = Jvm.exec) {k : Fin 4} {x : Int32} (hd : decode c.code pc = .ok (.istore_n k, 1)) (hp : pc + 1 = pc') (hl : storeLocals Ls k.val (.int x) = some Ls')
    (kk : Go p e below s cm sm Q T (mkF m pc' Ls' (St))) : Go p e below s cm sm Q T (mkF m pc Ls (.int x :: St)) := by
  subst hp
  exact Go.st (fun t q => XS.istoreN (g := mkF m pc Ls (.int x :: St)) X.here hx rfl hd rfl hl q) kk
theorem w_istore (X : Stand p l e R s m args below meth c T locs cells slots) (hx : p.tables.exec = Jvm.exec) {k : Nat} {x : Int32} (hd : decode c.code pc = .ok (.istore k, 2)) (hp : pc + 2 = pc') (hl : storeLocals Ls k (.int x) = some Ls')
    (kk : Go p e below s cm sm Q T (mkF m pc' Ls' (St))) : Go p e below s cm sm Q T (mkF m pc Ls (.int x :: St)) := by
  subst hp
  exact Go.st (fun t q => XS.istore (g := mkF m pc Ls (.int x :: St)) X.here hx rfl hd rfl hl q) kk
theorem w_lloadN (X : Stand p l e R s m args below meth c T locs cells slots) (hx : p.tables.exec = Jvm.exec) {k : Fin 4} {v : Int64} (hd : decode c.code pc = .ok (.lload_n k, 1)) (hp : pc + 1 = pc') (hl : Ls[k.val]? = some (.val (.long v)))
    (kk : Go p e below s cm sm Q T (mkF m pc' Ls (.long v :: St))) : Go p e below s cm sm Q T (mkF m pc Ls (St)) := by
  subst hp
  exact Go.st (fun t q => XS.lloadN (g := mkF m pc Ls (St)) X.here hx rfl hd hl q) kk
theorem w_lload (X : Stand p l e R s m args below meth c T locs cells slots) (hx : p.tables.exec = Jvm.exec) {k : Nat} {v : Int64} (hd : decode c.code pc = .ok (.lload k, 2)) (hp : pc + 2 = pc') (hl : Ls[k]? = some (.val (.long v)))
    (kk : Go p e below s cm sm Q T (mkF m pc' Ls (.long v :: St))) : Go p e below s cm sm Q T (mkF m pc Ls (St)) := by
  subst hp
  exact Go.st (fun t q => XS.lload (g := mkF m pc Ls (St)) X.here hx rfl hd hl q) kk
theorem w_lstoreN (X : Stand p l e R s m args below meth c T locs cells slots) (hx : p.tables.exec = Jvm.exec) {k : Fin 4} {x : Int64} (hd : decode c.code pc = .ok (.lstore_n k, 1)) (hp : pc + 1 = pc') (hl : storeLocals Ls k.val (.long x) = some Ls')
    (kk : Go p e below s cm sm Q T (mkF m pc' Ls' (St))) : Go p e below s cm sm Q T (mkF m pc Ls (.long x :: St)) := by
  subst hp
  exact Go.st (fun t q => XS.lstoreN (g := mkF m pc Ls (.long x :: St)) X.here hx rfl hd rfl hl q) kk
theorem w_lstore (X : Stand p l e R s m args below meth c T locs cells slots) (hx : p.tables.exec = Jvm.exec) {k : Nat} {x : Int64} (hd : decode c.code pc = .ok (.lstore k, 2)) (hp : pc + 2 = pc') (hl : storeLocals Ls k (.long x) = some Ls')
    (kk : Go p e below s cm sm Q T (mkF m pc' Ls' (St))) : Go p e below s cm sm Q T (mkF m pc Ls (.long x :: St)) := by
  subst hp
  exact Go.st (fun t q => XS.lstore (g := mkF m pc Ls (.long x :: St)) X.here hx rfl hd rfl hl q) kk
theorem w_aloadN (X : Stand p l e R s m args below meth c T locs cells slots) (hx : p.tables.exec = Jvm.exec) {k : Fin 4} {v : Value} (hd : decode c.code pc = .ok (.aload_n k, 1)) (hp : pc + 1 = pc') (hl : Ls[k.val]? = some (.val v)) (hv : v.isRef = true)
    (kk : Go p e below s cm sm Q T (mkF m pc' Ls (v :: St))) : Go p e below s cm sm Q T (mkF m pc Ls (St)) := by
  subst hp
  exact Go.st (fun t q => XS.aloadN (g := mkF m pc Ls (St)) X.here hx rfl hd hl hv q) kk
theorem w_aload (X : Stand p l e R s m args below meth c T locs cells slots) (hx : p.tables.exec = Jvm.exec) {k : Nat} {v : Value} (hd : decode c.code pc = .ok (.aload k, 2)) (hp : pc + 2 = pc') (hl : Ls[k]? = some (.val v)) (hv : v.isRef = true)
    (kk : Go p e below s cm sm Q T (mkF m pc' Ls (v :: St))) : Go p e below s cm sm Q T (mkF m pc Ls (St)) := by
  subst hp
  exact Go.st (fun t q => XS.aload (g := mkF m pc Ls (St)) X.here hx rfl hd hl hv q) kk
theorem w_astoreN (X : Stand p l e R s m args below meth c T locs cells slots) (hx : p.tables.exec = Jvm.exec) {k : Fin 4} {x : Value} (hd : decode c.code pc = .ok (.astore_n k, 1)) (hp : pc + 1 = pc') (hv : x.isRef = true) (hl : storeLocals Ls k.val x = some Ls')
    (kk : Go p e below s cm sm Q T (mkF m pc' Ls' (St))) : Go p e below s cm sm Q T (mkF m pc Ls (x :: St)) := by
  subst hp
  exact Go.st (fun t q => XS.astoreN (g := mkF m pc Ls (x :: St)) X.here hx rfl hd rfl hv hl q) kk
theorem w_astore (X : Stand p l e R s m args below meth c T locs cells slots) (hx : p.tables.exec = Jvm.exec) {k : Nat} {x : Value} (hd : decode c.code pc = .ok (.astore k, 2)) (hp : pc + 2 = pc') (hv : x.isRef = true) (hl : storeLocals Ls k x = some Ls')
    (kk : Go p e below s cm sm Q T (mkF m pc' Ls' (St))) : Go p e below s cm sm Q T (mkF m pc Ls (x :: St)) := by
  subst hp
  exact Go.st (fun t q => XS.astore (g := mkF m pc Ls (x :: St)) X.here hx rfl hd rfl hv hl q) kk
theorem w_iconst (X : Stand p l e R s m args below meth c T locs cells slots) (hx : p.tables.exec = Jvm.exec) {i : Int} {v : Int32} (hd : decode c.code pc = .ok (.iconst i, 1)) (hp : pc + 1 = pc') (hv : Int32.ofInt i = v)
    (kk : Go p e below s cm sm Q T (mkF m pc' Ls (.int v :: St))) : Go p e below s cm sm Q T (mkF m pc Ls St) := by
  subst hp hv
  exact Go.st (fun t q => XS.iconst (g := mkF m pc Ls St) X.here hx rfl hd q) kk
theorem w_bipush (X : Stand p l e R s m args below meth c T locs cells slots) (hx : p.tables.exec = Jvm.exec) {i : Int} {v : Int32} (hd : decode c.code pc = .ok (.bipush i, 2)) (hp : pc + 2 = pc') (hv : (Int8.ofInt i).toInt32 = v)
    (kk : Go p e below s cm sm Q T (mkF m pc' Ls (.int v :: St))) : Go p e below s cm sm Q T (mkF m pc Ls St) := by
  subst hp hv
  exact Go.st (fun t q => XS.bipush (g := mkF m pc Ls St) X.here hx rfl hd q) kk
theorem w_sipush (X : Stand p l e R s m args below meth c T locs cells slots) (hx : p.tables.exec = Jvm.exec) {i : Int} {v : Int32} (hd : decode c.code pc = .ok (.sipush i, 3)) (hp : pc + 3 = pc') (hv : (Int16.ofInt i).toInt32 = v)
    (kk : Go p e below s cm sm Q T (mkF m pc' Ls (.int v :: St))) : Go p e below s cm sm Q T (mkF m pc Ls St) := by
  subst hp hv
  exact Go.st (fun t q => XS.sipush (g := mkF m pc Ls St) X.here hx rfl hd q) kk
theorem w_lconst (X : Stand p l e R s m args below meth c T locs cells slots) (hx : p.tables.exec = Jvm.exec) {i : Fin 2} {v : Int64} (hd : decode c.code pc = .ok (.lconst i, 1)) (hp : pc + 1 = pc') (hv : Int64.ofNat i = v)
    (kk : Go p e below s cm sm Q T (mkF m pc' Ls (.long v :: St))) : Go p e below s cm sm Q T (mkF m pc Ls St) := by
  subst hp hv
  exact Go.st (fun t q => XS.lconst (g := mkF m pc Ls St) X.here hx rfl hd q) kk
theorem w_aconstNull (X : Stand p l e R s m args below meth c T locs cells slots) (hx : p.tables.exec = Jvm.exec)  (hd : decode c.code pc = .ok (.aconst_null, 1)) (hp : pc + 1 = pc')
    (kk : Go p e below s cm sm Q T (mkF m pc' Ls (.null :: St))) : Go p e below s cm sm Q T (mkF m pc Ls (St)) := by
  subst hp
  exact Go.st (fun t q => XS.aconstNull (g := mkF m pc Ls (St)) X.here hx rfl hd q) kk
theorem w_iadd (X : Stand p l e R s m args below meth c T locs cells slots) (hx : p.tables.exec = Jvm.exec) {x y : Int32} (hd : decode c.code pc = .ok (.iadd, 1)) (hp : pc + 1 = pc')
    (kk : Go p e below s cm sm Q T (mkF m pc' Ls (.int (x + y) :: St))) : Go p e below s cm sm Q T (mkF m pc Ls (.int y :: .int x :: St)) := by
  subst hp
  exact Go.st (fun t q => XS.iadd (g := mkF m pc Ls (.int y :: .int x :: St)) X.here hx rfl hd rfl q) kk
theorem w_ladd (X : Stand p l e R s m args below meth c T locs cells slots) (hx : p.tables.exec = Jvm.exec) {x y : Int64} (hd : decode c.code pc = .ok (.ladd, 1)) (hp : pc + 1 = pc')
    (kk : Go p e below s cm sm Q T (mkF m pc' Ls (.long (x + y) :: St))) : Go p e below s cm sm Q T (mkF m pc Ls (.long y :: .long x :: St)) := by
  subst hp
  exact Go.st (fun t q => XS.ladd (g := mkF m pc Ls (.long y :: .long x :: St)) X.here hx rfl hd rfl q) kk
theorem w_isub (X : Stand p l e R s m args below meth c T locs cells slots) (hx : p.tables.exec = Jvm.exec) {x y : Int32} (hd : decode c.code pc = .ok (.isub, 1)) (hp : pc + 1 = pc')
    (kk : Go p e below s cm sm Q T (mkF m pc' Ls (.int (x - y) :: St))) : Go p e below s cm sm Q T (mkF m pc Ls (.int y :: .int x :: St)) := by
  subst hp
  exact Go.st (fun t q => XS.isub (g := mkF m pc Ls (.int y :: .int x :: St)) X.here hx rfl hd rfl q) kk
theorem w_lsub (X : Stand p l e R s m args below meth c T locs cells slots) (hx : p.tables.exec = Jvm.exec) {x y : Int64} (hd : decode c.code pc = .ok (.lsub, 1)) (hp : pc + 1 = pc')
    (kk : Go p e below s cm sm Q T (mkF m pc' Ls (.long (x - y) :: St))) : Go p e below s cm sm Q T (mkF m pc Ls (.long y :: .long x :: St)) := by
  subst hp
  exact Go.st (fun t q => XS.lsub (g := mkF m pc Ls (.long y :: .long x :: St)) X.here hx rfl hd rfl q) kk
theorem w_imul (X : Stand p l e R s m args below meth c T locs cells slots) (hx : p.tables.exec = Jvm.exec) {x y : Int32} (hd : decode c.code pc = .ok (.imul, 1)) (hp : pc + 1 = pc')
    (kk : Go p e below s cm sm Q T (mkF m pc' Ls (.int (x * y) :: St))) : Go p e below s cm sm Q T (mkF m pc Ls (.int y :: .int x :: St)) := by
  subst hp
  exact Go.st (fun t q => XS.imul (g := mkF m pc Ls (.int y :: .int x :: St)) X.here hx rfl hd rfl q) kk
theorem w_lmul (X : Stand p l e R s m args below meth c T locs cells slots) (hx : p.tables.exec = Jvm.exec) {x y : Int64} (hd : decode c.code pc = .ok (.lmul, 1)) (hp : pc + 1 = pc')
    (kk : Go p e below s cm sm Q T (mkF m pc' Ls (.long (x * y) :: St))) : Go p e below s cm sm Q T (mkF m pc Ls (.long y :: .long x :: St)) := by
  subst hp
  exact Go.st (fun t q => XS.lmul (g := mkF m pc Ls (.long y :: .long x :: St)) X.here hx rfl hd rfl q) kk
theorem w_iand (X : Stand p l e R s m args below meth c T locs cells slots) (hx : p.tables.exec = Jvm.exec) {x y : Int32} (hd : decode c.code pc = .ok (.iand, 1)) (hp : pc + 1 = pc')
    (kk : Go p e below s cm sm Q T (mkF m pc' Ls (.int (x &&& y) :: St))) : Go p e below s cm sm Q T (mkF m pc Ls (.int y :: .int x :: St)) := by
  subst hp
  exact Go.st (fun t q => XS.iand (g := mkF m pc Ls (.int y :: .int x :: St)) X.here hx rfl hd rfl q) kk
theorem w_land (X : Stand p l e R s m args below meth c T locs cells slots) (hx : p.tables.exec = Jvm.exec) {x y : Int64} (hd : decode c.code pc = .ok (.land, 1)) (hp : pc + 1 = pc')
    (kk : Go p e below s cm sm Q T (mkF m pc' Ls (.long (x &&& y) :: St))) : Go p e below s cm sm Q T (mkF m pc Ls (.long y :: .long x :: St)) := by
  subst hp
  exact Go.st (fun t q => XS.land (g := mkF m pc Ls (.long y :: .long x :: St)) X.here hx rfl hd rfl q) kk
theorem w_ior (X : Stand p l e R s m args below meth c T locs cells slots) (hx : p.tables.exec = Jvm.exec) {x y : Int32} (hd : decode c.code pc = .ok (.ior, 1)) (hp : pc + 1 = pc')
    (kk : Go p e below s cm sm Q T (mkF m pc' Ls (.int (x ||| y) :: St))) : Go p e below s cm sm Q T (mkF m pc Ls (.int y :: .int x :: St)) := by
  subst hp
  exact Go.st (fun t q => XS.ior (g := mkF m pc Ls (.int y :: .int x :: St)) X.here hx rfl hd rfl q) kk
theorem w_lor (X : Stand p l e R s m args below meth c T locs cells slots) (hx : p.tables.exec = Jvm.exec) {x y : Int64} (hd : decode c.code pc = .ok (.lor, 1)) (hp : pc + 1 = pc')
    (kk : Go p e below s cm sm Q T (mkF m pc' Ls (.long (x ||| y) :: St))) : Go p e below s cm sm Q T (mkF m pc Ls (.long y :: .long x :: St)) := by
  subst hp
  exact Go.st (fun t q => XS.lor (g := mkF m pc Ls (.long y :: .long x :: St)) X.here hx rfl hd rfl q) kk
theorem w_ixor (X : Stand p l e R s m args below meth c T locs cells slots) (hx : p.tables.exec = Jvm.exec) {x y : Int32} (hd : decode c.code pc = .ok (.ixor, 1)) (hp : pc + 1 = pc')
    (kk : Go p e below s cm sm Q T (mkF m pc' Ls (.int (x ^^^ y) :: St))) : Go p e below s cm sm Q T (mkF m pc Ls (.int y :: .int x :: St)) := by
  subst hp
  exact Go.st (fun t q => XS.ixor (g := mkF m pc Ls (.int y :: .int x :: St)) X.here hx rfl hd rfl q) kk
theorem w_lxor (X : Stand p l e R s m args below meth c T locs cells slots) (hx : p.tables.exec = Jvm.exec) {x y : Int64} (hd : decode c.code pc = .ok (.lxor, 1)) (hp : pc + 1 = pc')
    (kk : Go p e below s cm sm Q T (mkF m pc' Ls (.long (x ^^^ y) :: St))) : Go p e below s cm sm Q T (mkF m pc Ls (.long y :: .long x :: St)) := by
  subst hp
  exact Go.st (fun t q => XS.lxor (g := mkF m pc Ls (.long y :: .long x :: St)) X.here hx rfl hd rfl q) kk
theorem w_idiv (X : Stand p l e R s m args below meth c T locs cells slots) (hx : p.tables.exec = Jvm.exec) {x y : Int32} (hd : decode c.code pc = .ok (.idiv, 1)) (hp : pc + 1 = pc') (hy : y ≠ 0)
    (kk : Go p e below s cm sm Q T (mkF m pc' Ls (.int (x / y) :: St))) : Go p e below s cm sm Q T (mkF m pc Ls (.int y :: .int x :: St)) := by
  subst hp
  exact Go.st (fun t q => XS.idiv (g := mkF m pc Ls (.int y :: .int x :: St)) X.here hx rfl hd rfl hy q) kk
theorem own_irem (x y : Int32) : x - x / y * y = x % y := by
  apply Int32.toInt_inj.mp
  have h : x.toInt - x.toInt.tdiv y.toInt * y.toInt = x.toInt.tmod y.toInt := by
    have := Int.mul_tdiv_add_tmod x.toInt y.toInt
    rw [Int.mul_comm]; omega
  have hr := (x % y).toInt_lt
  have hl := (x % y).le_toInt
  rw [Int32.toInt_mod] at hr hl
  rw [Int32.toInt_sub, Int32.toInt_mul, Int32.toInt_div, Int32.toInt_mod, Int.bmod_mul_bmod, Int.sub_bmod_bmod, h, Jvm.Kit.bmod32 (by omega) (by omega)]
theorem w_irem (X : Stand p l e R s m args below meth c T locs cells slots) (hx : p.tables.exec = Jvm.exec) {x y : Int32} (hd : decode c.code pc = .ok (.irem, 1)) (hp : pc + 1 = pc') (hy : y ≠ 0)
    (kk : Go p e below s cm sm Q T (mkF m pc' Ls (.int (x % y) :: St))) : Go p e below s cm sm Q T (mkF m pc Ls (.int y :: .int x :: St)) := by
  subst hp
  rw [← own_irem] at kk
  exact Go.st (fun t q => XS.irem (g := mkF m pc Ls (.int y :: .int x :: St)) X.here hx rfl hd rfl hy q) kk
theorem w_ldiv (X : Stand p l e R s m args below meth c T locs cells slots) (hx : p.tables.exec = Jvm.exec) {x y : Int64} (hd : decode c.code pc = .ok (.ldiv, 1)) (hp : pc + 1 = pc') (hy : y ≠ 0)
    (kk : Go p e below s cm sm Q T (mkF m pc' Ls (.long (x / y) :: St))) : Go p e below s cm sm Q T (mkF m pc Ls (.long y :: .long x :: St)) := by
  subst hp
  exact Go.st (fun t q => XS.ldiv (g := mkF m pc Ls (.long y :: .long x :: St)) X.here hx rfl hd rfl hy q) kk
theorem own_lrem (x y : Int64) : x - x / y * y = x % y := by
  apply Int64.toInt_inj.mp
  have h : x.toInt - x.toInt.tdiv y.toInt * y.toInt = x.toInt.tmod y.toInt := by
    have := Int.mul_tdiv_add_tmod x.toInt y.toInt
    rw [Int.mul_comm]; omega
  have hr := (x % y).toInt_lt
  have hl := (x % y).le_toInt
  rw [Int64.toInt_mod] at hr hl
  rw [Int64.toInt_sub, Int64.toInt_mul, Int64.toInt_div, Int64.toInt_mod, Int.bmod_mul_bmod, Int.sub_bmod_bmod, h, Jvm.Kit.bmod64 (by omega) (by omega)]
theorem w_lrem (X : Stand p l e R s m args below meth c T locs cells slots) (hx : p.tables.exec = Jvm.exec) {x y : Int64} (hd : decode c.code pc = .ok (.lrem, 1)) (hp : pc + 1 = pc') (hy : y ≠ 0)
    (kk : Go p e below s cm sm Q T (mkF m pc' Ls (.long (x % y) :: St))) : Go p e below s cm sm Q T (mkF m pc Ls (.long y :: .long x :: St)) := by
  subst hp
  rw [← own_lrem] at kk
  exact Go.st (fun t q => XS.lrem (g := mkF m pc Ls (.long y :: .long x :: St)) X.here hx rfl hd rfl hy q) kk
theorem w_ineg (X : Stand p l e R s m args below meth c T locs cells slots) (hx : p.tables.exec = Jvm.exec) {x : Int32} (hd : decode c.code pc = .ok (.ineg, 1)) (hp : pc + 1 = pc')
    (kk : Go p e below s cm sm Q T (mkF m pc' Ls (.int (-x) :: St))) : Go p e below s cm sm Q T (mkF m pc Ls (.int x :: St)) := by
  subst hp
  exact Go.st (fun t q => XS.ineg (g := mkF m pc Ls (.int x :: St)) X.here hx rfl hd rfl q) kk
theorem w_lneg (X : Stand p l e R s m args below meth c T locs cells slots) (hx : p.tables.exec = Jvm.exec) {x : Int64} (hd : decode c.code pc = .ok (.lneg, 1)) (hp : pc + 1 = pc')
    (kk : Go p e below s cm sm Q T (mkF m pc' Ls (.long (-x) :: St))) : Go p e below s cm sm Q T (mkF m pc Ls (.long x :: St)) := by
  subst hp
  exact Go.st (fun t q => XS.lneg (g := mkF m pc Ls (.long x :: St)) X.here hx rfl hd rfl q) kk
theorem w_i2l (X : Stand p l e R s m args below meth c T locs cells slots) (hx : p.tables.exec = Jvm.exec) {x : Int32} (hd : decode c.code pc = .ok (.i2l, 1)) (hp : pc + 1 = pc')
    (kk : Go p e below s cm sm Q T (mkF m pc' Ls (.long x.toInt64 :: St))) : Go p e below s cm sm Q T (mkF m pc Ls (.int x :: St)) := by
  subst hp
  exact Go.st (fun t q => XS.i2l (g := mkF m pc Ls (.int x :: St)) X.here hx rfl hd rfl q) kk
theorem w_l2i (X : Stand p l e R s m args below meth c T locs cells slots) (hx : p.tables.exec = Jvm.exec) {x : Int64} (hd : decode c.code pc = .ok (.l2i, 1)) (hp : pc + 1 = pc')
    (kk : Go p e below s cm sm Q T (mkF m pc' Ls (.int x.toInt32 :: St))) : Go p e below s cm sm Q T (mkF m pc Ls (.long x :: St)) := by
  subst hp
  exact Go.st (fun t q => XS.l2i (g := mkF m pc Ls (.long x :: St)) X.here hx rfl hd rfl q) kk
theorem w_i2b (X : Stand p l e R s m args below meth c T locs cells slots) (hx : p.tables.exec = Jvm.exec) {x : Int32} (hd : decode c.code pc = .ok (.i2b, 1)) (hp : pc + 1 = pc')
    (kk : Go p e below s cm sm Q T (mkF m pc' Ls (.int x.toInt8.toInt32 :: St))) : Go p e below s cm sm Q T (mkF m pc Ls (.int x :: St)) := by
  subst hp
  exact Go.st (fun t q => XS.i2b (g := mkF m pc Ls (.int x :: St)) X.here hx rfl hd rfl q) kk
theorem w_i2c (X : Stand p l e R s m args below meth c T locs cells slots) (hx : p.tables.exec = Jvm.exec) {x : Int32} (hd : decode c.code pc = .ok (.i2c, 1)) (hp : pc + 1 = pc')
    (kk : Go p e below s cm sm Q T (mkF m pc' Ls (.int x.toUInt32.toUInt16.toUInt32.toInt32 :: St))) : Go p e below s cm sm Q T (mkF m pc Ls (.int x :: St)) := by
  subst hp
  exact Go.st (fun t q => XS.i2c (g := mkF m pc Ls (.int x :: St)) X.here hx rfl hd rfl q) kk
theorem w_ishl (X : Stand p l e R s m args below meth c T locs cells slots) (hx : p.tables.exec = Jvm.exec) {x y : Int32} (hd : decode c.code pc = .ok (.ishl, 1)) (hp : pc + 1 = pc')
    (kk : Go p e below s cm sm Q T (mkF m pc' Ls (.int (x <<< (y &&& 31)) :: St))) : Go p e below s cm sm Q T (mkF m pc Ls (.int y :: .int x :: St)) := by
  subst hp
  exact Go.st (fun t q => XS.ishl (g := mkF m pc Ls (.int y :: .int x :: St)) X.here hx rfl hd rfl q) kk
theorem w_ishr (X : Stand p l e R s m args below meth c T locs cells slots) (hx : p.tables.exec = Jvm.exec) {x y : Int32} (hd : decode c.code pc = .ok (.ishr, 1)) (hp : pc + 1 = pc')
    (kk : Go p e below s cm sm Q T (mkF m pc' Ls (.int (x >>> (y &&& 31)) :: St))) : Go p e below s cm sm Q T (mkF m pc Ls (.int y :: .int x :: St)) := by
  subst hp
  exact Go.st (fun t q => XS.ishr (g := mkF m pc Ls (.int y :: .int x :: St)) X.here hx rfl hd rfl q) kk
theorem w_iushr (X : Stand p l e R s m args below meth c T locs cells slots) (hx : p.tables.exec = Jvm.exec) {x y : Int32} (hd : decode c.code pc = .ok (.iushr, 1)) (hp : pc + 1 = pc')
    (kk : Go p e below s cm sm Q T (mkF m pc' Ls (.int (jushr x y) :: St))) : Go p e below s cm sm Q T (mkF m pc Ls (.int y :: .int x :: St)) := by
  subst hp
  exact Go.st (fun t q => XS.iushr (g := mkF m pc Ls (.int y :: .int x :: St)) X.here hx rfl hd rfl q) kk
theorem w_lshl (X : Stand p l e R s m args below meth c T locs cells slots) (hx : p.tables.exec = Jvm.exec) {x : Int64} {y : Int32} (hd : decode c.code pc = .ok (.lshl, 1)) (hp : pc + 1 = pc')
    (kk : Go p e below s cm sm Q T (mkF m pc' Ls (.long (x <<< (y &&& 0x3f).toInt64) :: St))) : Go p e below s cm sm Q T (mkF m pc Ls (.int y :: .long x :: St)) := by
  subst hp
  exact Go.st (fun t q => XS.lshl (g := mkF m pc Ls (.int y :: .long x :: St)) X.here hx rfl hd rfl q) kk
theorem w_lshr (X : Stand p l e R s m args below meth c T locs cells slots) (hx : p.tables.exec = Jvm.exec) {x : Int64} {y : Int32} (hd : decode c.code pc = .ok (.lshr, 1)) (hp : pc + 1 = pc')
    (kk : Go p e below s cm sm Q T (mkF m pc' Ls (.long (x >>> (y &&& 0x3f).toInt64) :: St))) : Go p e below s cm sm Q T (mkF m pc Ls (.int y :: .long x :: St)) := by
  subst hp
  exact Go.st (fun t q => XS.lshr (g := mkF m pc Ls (.int y :: .long x :: St)) X.here hx rfl hd rfl q) kk
theorem w_lushr (X : Stand p l e R s m args below meth c T locs cells slots) (hx : p.tables.exec = Jvm.exec) {x : Int64} {y : Int32} (hd : decode c.code pc = .ok (.lushr, 1)) (hp : pc + 1 = pc')
    (kk : Go p e below s cm sm Q T (mkF m pc' Ls (.long (jlushr x y) :: St))) : Go p e below s cm sm Q T (mkF m pc Ls (.int y :: .long x :: St)) := by
  subst hp
  exact Go.st (fun t q => XS.lushr (g := mkF m pc Ls (.int y :: .long x :: St)) X.here hx rfl hd rfl q) kk
theorem w_lcmp (X : Stand p l e R s m args below meth c T locs cells slots) (hx : p.tables.exec = Jvm.exec) {x y : Int64} (hd : decode c.code pc = .ok (.lcmp, 1)) (hp : pc + 1 = pc')
    (kk : Go p e below s cm sm Q T (mkF m pc' Ls (.int (lcmpW x y) :: St))) : Go p e below s cm sm Q T (mkF m pc Ls (.long y :: .long x :: St)) := by
  subst hp
  exact Go.st (fun t q => XS.lcmp (g := mkF m pc Ls (.long y :: .long x :: St)) X.here hx rfl hd rfl q) kk
theorem w_dup (X : Stand p l e R s m args below meth c T locs cells slots) (hx : p.tables.exec = Jvm.exec) {x : Value} (hd : decode c.code pc = .ok (.dup, 1)) (hp : pc + 1 = pc') (hv : x.category = 1)
    (kk : Go p e below s cm sm Q T (mkF m pc' Ls (x :: x :: St))) : Go p e below s cm sm Q T (mkF m pc Ls (x :: St)) := by
  subst hp
  exact Go.st (fun t q => XS.dup (g := mkF m pc Ls (x :: St)) X.here hx rfl hd rfl hv q) kk
theorem w_pop (X : Stand p l e R s m args below meth c T locs cells slots) (hx : p.tables.exec = Jvm.exec) {x : Value} (hd : decode c.code pc = .ok (.pop, 1)) (hp : pc + 1 = pc') (hv : x.category = 1)
    (kk : Go p e below s cm sm Q T (mkF m pc' Ls (St))) : Go p e below s cm sm Q T (mkF m pc Ls (x :: St)) := by
  subst hp
  exact Go.st (fun t q => XS.pop (g := mkF m pc Ls (x :: St)) X.here hx rfl hd rfl hv q) kk
theorem w_dupX1 (X : Stand p l e R s m args below meth c T locs cells slots) (hx : p.tables.exec = Jvm.exec) {x y : Value} (hd : decode c.code pc = .ok (.dup_x1, 1)) (hp : pc + 1 = pc') (hv : x.category = 1) (hv' : y.category = 1)
    (kk : Go p e below s cm sm Q T (mkF m pc' Ls (x :: y :: x :: St))) : Go p e below s cm sm Q T (mkF m pc Ls (x :: y :: St)) := by
  subst hp
  exact Go.st (fun t q => XS.dupX1 (g := mkF m pc Ls (x :: y :: St)) X.here hx rfl hd rfl hv hv' q) kk
theorem w_iinc (X : Stand p l e R s m args below meth c T locs cells slots) (hx : p.tables.exec = Jvm.exec) {k : Nat} {cst : Int} {x w : Int32} (hd : decode c.code pc = .ok (.iinc k cst, 3)) (hp : pc + 3 = pc') (hl : Ls[k]? = some (.val (.int x))) (hv : Int32.ofInt cst = w) (hl' : storeLocals Ls k (.int (x + w)) = some Ls')
    (kk : Go p e below s cm sm Q T (mkF m pc' Ls' St)) : Go p e below s cm sm Q T (mkF m pc Ls St) := by
  subst hp hv
  exact Go.st (fun t q => XS.iinc (g := mkF m pc Ls St) X.here hx rfl hd hl hl' q) kk
theorem w_goto (X : Stand p l e R s m args below meth c T locs cells slots) (hx : p.tables.exec = Jvm.exec) {o : Int} (hd : decode c.code pc = .ok (.goto o, 3)) (ho : 0 ≤ (pc : Int) + o) (hp : ((pc : Int) + o).toNat = pc')
    (kk : Go p e below s cm sm Q T (mkF m pc' Ls St)) : Go p e below s cm sm Q T (mkF m pc Ls St) :=
  Go.st (fun t q => XS.goto (g := mkF m pc Ls St) X.here hx rfl (pc0 := pc) (pc' := pc') rfl hd ho hp q) kk
theorem w_icmp0 (X : Stand p l e R s m args below meth c T locs cells slots) (hx : p.tables.exec = Jvm.exec) {cd : ClassFile.Cond} {x y : Int32} {o : Int} {pt pf : Nat} (hd : decode c.code pc = .ok (.if_icmp cd o, 3)) (hf : pc + 3 = pf) (ho : 0 ≤ (pc : Int) + o) (hp : ((pc : Int) + o).toNat = pt)
    (kT : if_icmp.holds cd x y = true → Go p e below s cm sm Q T (mkF m pt Ls St)) (kF : if_icmp.holds cd x y = false → Go p e below s cm sm Q T (mkF m pf Ls St)) : Go p e below s cm sm Q T (mkF m pc Ls (.int y :: .int x :: St)) := by
  subst hf
  cases hc : if_icmp.holds cd x y with
  | true => exact Go.st (fun t q => XS.icmpYes (g := mkF m pc Ls (.int y :: .int x :: St)) X.here hx rfl (pc0 := pc) (pc' := pt) rfl hd rfl hc ho hp q) (kT hc)
  | false => exact Go.st (fun t q => XS.icmpNo (g := mkF m pc Ls (.int y :: .int x :: St)) X.here hx rfl hd rfl hc q) (kF hc)
theorem w_if0 (X : Stand p l e R s m args below meth c T locs cells slots) (hx : p.tables.exec = Jvm.exec) {cd : ClassFile.Cond} {x : Int32} {o : Int} {pt pf : Nat} (hd : decode c.code pc = .ok (.ifCond cd o, 3)) (hf : pc + 3 = pf) (ho : 0 ≤ (pc : Int) + o) (hp : ((pc : Int) + o).toNat = pt)
    (kT : if_icmp.holds cd x 0 = true → Go p e below s cm sm Q T (mkF m pt Ls St)) (kF : if_icmp.holds cd x 0 = false → Go p e below s cm sm Q T (mkF m pf Ls St)) : Go p e below s cm sm Q T (mkF m pc Ls (.int x :: St)) := by
  subst hf
  cases hc : if_icmp.holds cd x 0 with
  | true => exact Go.st (fun t q => XS.ifYes (g := mkF m pc Ls (.int x :: St)) X.here hx rfl (pc0 := pc) (pc' := pt) rfl hd rfl ((if0 _ _).trans hc) ho hp q) (kT hc)
  | false => exact Go.st (fun t q => XS.ifNo (g := mkF m pc Ls (.int x :: St)) X.here hx rfl hd rfl ((if0 _ _).trans hc) q) (kF hc)
theorem h_lt {x y : Int32} : (if_icmp.holds .lt x y = true → x < y) ∧ (if_icmp.holds .lt x y = false → ¬ x < y) := ⟨fun h => Decidable.byContradiction fun q => by simp [(flt q).1] at h, fun h q => by simp [(tlt q).1] at h⟩
theorem h_ge {x y : Int32} : (if_icmp.holds .ge x y = true → ¬ x < y) ∧ (if_icmp.holds .ge x y = false → x < y) := ⟨fun h q => by simp [(tlt q).2.1] at h, fun h => Decidable.byContradiction fun q => by simp [(flt q).2.1] at h⟩
theorem h_gt {x y : Int32} : (if_icmp.holds .gt x y = true → y < x) ∧ (if_icmp.holds .gt x y = false → ¬ y < x) := ⟨fun h => Decidable.byContradiction fun q => by simp [(flt q).2.2.1] at h, fun h q => by simp [(tlt q).2.2.1] at h⟩
theorem h_le {x y : Int32} : (if_icmp.holds .le x y = true → ¬ y < x) ∧ (if_icmp.holds .le x y = false → y < x) := ⟨fun h q => by simp [(tlt q).2.2.2] at h, fun h => Decidable.byContradiction fun q => by simp [(flt q).2.2.2] at h⟩
theorem h_eq {x y : Int32} : (if_icmp.holds .eq x y = true → x = y) ∧ (if_icmp.holds .eq x y = false → ¬ x = y) := ⟨fun h => Decidable.byContradiction fun q => by simp [(feq q).1] at h, fun h q => by simp [(teq q).1] at h⟩
theorem h_ne {x y : Int32} : (if_icmp.holds .ne x y = true → ¬ x = y) ∧ (if_icmp.holds .ne x y = false → x = y) := ⟨fun h q => by simp [(teq q).2] at h, fun h => Decidable.byContradiction fun q => by simp [(feq q).2] at h⟩
theorem w_icmp_lt (X : Stand p l e R s m args below meth c T locs cells slots) (hx : p.tables.exec = Jvm.exec) {x y : Int32} {o : Int} {pt pf : Nat} (hd : decode c.code pc = .ok (.if_icmp .lt o, 3)) (hf : pc + 3 = pf) (ho : 0 ≤ (pc : Int) + o) (hp : ((pc : Int) + o).toNat = pt)
    (kT : x < y → Go p e below s cm sm Q T (mkF m pt Ls St)) (kF : ¬ (x < y) → Go p e below s cm sm Q T (mkF m pf Ls St)) : Go p e below s cm sm Q T (mkF m pc Ls (.int y :: .int x :: St)) :=
  w_icmp0 X hx hd hf ho hp (fun h => kT (h_lt.1 h)) (fun h => kF (h_lt.2 h))
theorem w_if_lt (X : Stand p l e R s m args below meth c T locs cells slots) (hx : p.tables.exec = Jvm.exec) {x : Int32} {o : Int} {pt pf : Nat} (hd : decode c.code pc = .ok (.ifCond .lt o, 3)) (hf : pc + 3 = pf) (ho : 0 ≤ (pc : Int) + o) (hp : ((pc : Int) + o).toNat = pt)
    (kT : x < 0 → Go p e below s cm sm Q T (mkF m pt Ls St)) (kF : ¬ (x < 0) → Go p e below s cm sm Q T (mkF m pf Ls St)) : Go p e below s cm sm Q T (mkF m pc Ls (.int x :: St)) :=
  w_if0 X hx hd hf ho hp (fun h => kT (h_lt.1 h)) (fun h => kF (h_lt.2 h))
theorem w_ifL_lt (X : Stand p l e R s m args below meth c T locs cells slots) (hx : p.tables.exec = Jvm.exec) {x y : Int64} {o : Int} {pt pf : Nat} (hd : decode c.code pc = .ok (.ifCond .lt o, 3)) (hf : pc + 3 = pf) (ho : 0 ≤ (pc : Int) + o) (hp : ((pc : Int) + o).toNat = pt)
    (kT : x < y → Go p e below s cm sm Q T (mkF m pt Ls St)) (kF : ¬ (x < y) → Go p e below s cm sm Q T (mkF m pf Ls St)) : Go p e below s cm sm Q T (mkF m pc Ls (.int (lcmpW x y) :: St)) :=
  w_if_lt X hx hd hf ho hp (fun q => kT ((lw_lt x y).1 q)) (fun q => kF (fun r => q ((lw_lt x y).2 r)))
theorem w_icmp_ge (X : Stand p l e R s m args below meth c T locs cells slots) (hx : p.tables.exec = Jvm.exec) {x y : Int32} {o : Int} {pt pf : Nat} (hd : decode c.code pc = .ok (.if_icmp .ge o, 3)) (hf : pc + 3 = pf) (ho : 0 ≤ (pc : Int) + o) (hp : ((pc : Int) + o).toNat = pt)
    (kT : ¬ (x < y) → Go p e below s cm sm Q T (mkF m pt Ls St)) (kF : x < y → Go p e below s cm sm Q T (mkF m pf Ls St)) : Go p e below s cm sm Q T (mkF m pc Ls (.int y :: .int x :: St)) :=
  w_icmp0 X hx hd hf ho hp (fun h => kT (h_ge.1 h)) (fun h => kF (h_ge.2 h))
theorem w_if_ge (X : Stand p l e R s m args below meth c T locs cells slots) (hx : p.tables.exec = Jvm.exec) {x : Int32} {o : Int} {pt pf : Nat} (hd : decode c.code pc = .ok (.ifCond .ge o, 3)) (hf : pc + 3 = pf) (ho : 0 ≤ (pc : Int) + o) (hp : ((pc : Int) + o).toNat = pt)
    (kT : ¬ (x < 0) → Go p e below s cm sm Q T (mkF m pt Ls St)) (kF : x < 0 → Go p e below s cm sm Q T (mkF m pf Ls St)) : Go p e below s cm sm Q T (mkF m pc Ls (.int x :: St)) :=
  w_if0 X hx hd hf ho hp (fun h => kT (h_ge.1 h)) (fun h => kF (h_ge.2 h))
theorem w_ifL_ge (X : Stand p l e R s m args below meth c T locs cells slots) (hx : p.tables.exec = Jvm.exec) {x y : Int64} {o : Int} {pt pf : Nat} (hd : decode c.code pc = .ok (.ifCond .ge o, 3)) (hf : pc + 3 = pf) (ho : 0 ≤ (pc : Int) + o) (hp : ((pc : Int) + o).toNat = pt)
    (kT : ¬ (x < y) → Go p e below s cm sm Q T (mkF m pt Ls St)) (kF : x < y → Go p e below s cm sm Q T (mkF m pf Ls St)) : Go p e below s cm sm Q T (mkF m pc Ls (.int (lcmpW x y) :: St)) :=
  w_if_ge X hx hd hf ho hp (fun q => kT (fun r => q ((lw_lt x y).2 r))) (fun q => kF ((lw_lt x y).1 q))
theorem w_icmp_gt (X : Stand p l e R s m args below meth c T locs cells slots) (hx : p.tables.exec = Jvm.exec) {x y : Int32} {o : Int} {pt pf : Nat} (hd : decode c.code pc = .ok (.if_icmp .gt o, 3)) (hf : pc + 3 = pf) (ho : 0 ≤ (pc : Int) + o) (hp : ((pc : Int) + o).toNat = pt)
    (kT : y < x → Go p e below s cm sm Q T (mkF m pt Ls St)) (kF : ¬ (y < x) → Go p e below s cm sm Q T (mkF m pf Ls St)) : Go p e below s cm sm Q T (mkF m pc Ls (.int y :: .int x :: St)) :=
  w_icmp0 X hx hd hf ho hp (fun h => kT (h_gt.1 h)) (fun h => kF (h_gt.2 h))
theorem w_if_gt (X : Stand p l e R s m args below meth c T locs cells slots) (hx : p.tables.exec = Jvm.exec) {x : Int32} {o : Int} {pt pf : Nat} (hd : decode c.code pc = .ok (.ifCond .gt o, 3)) (hf : pc + 3 = pf) (ho : 0 ≤ (pc : Int) + o) (hp : ((pc : Int) + o).toNat = pt)
    (kT : 0 < x → Go p e below s cm sm Q T (mkF m pt Ls St)) (kF : ¬ (0 < x) → Go p e below s cm sm Q T (mkF m pf Ls St)) : Go p e below s cm sm Q T (mkF m pc Ls (.int x :: St)) :=
  w_if0 X hx hd hf ho hp (fun h => kT (h_gt.1 h)) (fun h => kF (h_gt.2 h))
theorem w_ifL_gt (X : Stand p l e R s m args below meth c T locs cells slots) (hx : p.tables.exec = Jvm.exec) {x y : Int64} {o : Int} {pt pf : Nat} (hd : decode c.code pc = .ok (.ifCond .gt o, 3)) (hf : pc + 3 = pf) (ho : 0 ≤ (pc : Int) + o) (hp : ((pc : Int) + o).toNat = pt)
    (kT : y < x → Go p e below s cm sm Q T (mkF m pt Ls St)) (kF : ¬ (y < x) → Go p e below s cm sm Q T (mkF m pf Ls St)) : Go p e below s cm sm Q T (mkF m pc Ls (.int (lcmpW x y) :: St)) :=
  w_if_gt X hx hd hf ho hp (fun q => kT ((lw_gt x y).1 q)) (fun q => kF (fun r => q ((lw_gt x y).2 r)))
theorem w_icmp_le (X : Stand p l e R s m args below meth c T locs cells slots) (hx : p.tables.exec = Jvm.exec) {x y : Int32} {o : Int} {pt pf : Nat} (hd : decode c.code pc = .ok (.if_icmp .le o, 3)) (hf : pc + 3 = pf) (ho : 0 ≤ (pc : Int) + o) (hp : ((pc : Int) + o).toNat = pt)
    (kT : ¬ (y < x) → Go p e below s cm sm Q T (mkF m pt Ls St)) (kF : y < x → Go p e below s cm sm Q T (mkF m pf Ls St)) : Go p e below s cm sm Q T (mkF m pc Ls (.int y :: .int x :: St)) :=
  w_icmp0 X hx hd hf ho hp (fun h => kT (h_le.1 h)) (fun h => kF (h_le.2 h))
theorem w_if_le (X : Stand p l e R s m args below meth c T locs cells slots) (hx : p.tables.exec = Jvm.exec) {x : Int32} {o : Int} {pt pf : Nat} (hd : decode c.code pc = .ok (.ifCond .le o, 3)) (hf : pc + 3 = pf) (ho : 0 ≤ (pc : Int) + o) (hp : ((pc : Int) + o).toNat = pt)
    (kT : ¬ (0 < x) → Go p e below s cm sm Q T (mkF m pt Ls St)) (kF : 0 < x → Go p e below s cm sm Q T (mkF m pf Ls St)) : Go p e below s cm sm Q T (mkF m pc Ls (.int x :: St)) :=
  w_if0 X hx hd hf ho hp (fun h => kT (h_le.1 h)) (fun h => kF (h_le.2 h))
theorem w_ifL_le (X : Stand p l e R s m args below meth c T locs cells slots) (hx : p.tables.exec = Jvm.exec) {x y : Int64} {o : Int} {pt pf : Nat} (hd : decode c.code pc = .ok (.ifCond .le o, 3)) (hf : pc + 3 = pf) (ho : 0 ≤ (pc : Int) + o) (hp : ((pc : Int) + o).toNat = pt)
    (kT : ¬ (y < x) → Go p e below s cm sm Q T (mkF m pt Ls St)) (kF : y < x → Go p e below s cm sm Q T (mkF m pf Ls St)) : Go p e below s cm sm Q T (mkF m pc Ls (.int (lcmpW x y) :: St)) :=
  w_if_le X hx hd hf ho hp (fun q => kT (fun r => q ((lw_gt x y).2 r))) (fun q => kF ((lw_gt x y).1 q))
theorem w_icmp_eq (X : Stand p l e R s m args below meth c T locs cells slots) (hx : p.tables.exec = Jvm.exec) {x y : Int32} {o : Int} {pt pf : Nat} (hd : decode c.code pc = .ok (.if_icmp .eq o, 3)) (hf : pc + 3 = pf) (ho : 0 ≤ (pc : Int) + o) (hp : ((pc : Int) + o).toNat = pt)
    (kT : x = y → Go p e below s cm sm Q T (mkF m pt Ls St)) (kF : ¬ (x = y) → Go p e below s cm sm Q T (mkF m pf Ls St)) : Go p e below s cm sm Q T (mkF m pc Ls (.int y :: .int x :: St)) :=
  w_icmp0 X hx hd hf ho hp (fun h => kT (h_eq.1 h)) (fun h => kF (h_eq.2 h))
theorem w_if_eq (X : Stand p l e R s m args below meth c T locs cells slots) (hx : p.tables.exec = Jvm.exec) {x : Int32} {o : Int} {pt pf : Nat} (hd : decode c.code pc = .ok (.ifCond .eq o, 3)) (hf : pc + 3 = pf) (ho : 0 ≤ (pc : Int) + o) (hp : ((pc : Int) + o).toNat = pt)
    (kT : x = 0 → Go p e below s cm sm Q T (mkF m pt Ls St)) (kF : ¬ (x = 0) → Go p e below s cm sm Q T (mkF m pf Ls St)) : Go p e below s cm sm Q T (mkF m pc Ls (.int x :: St)) :=
  w_if0 X hx hd hf ho hp (fun h => kT (h_eq.1 h)) (fun h => kF (h_eq.2 h))
theorem w_ifL_eq (X : Stand p l e R s m args below meth c T locs cells slots) (hx : p.tables.exec = Jvm.exec) {x y : Int64} {o : Int} {pt pf : Nat} (hd : decode c.code pc = .ok (.ifCond .eq o, 3)) (hf : pc + 3 = pf) (ho : 0 ≤ (pc : Int) + o) (hp : ((pc : Int) + o).toNat = pt)
    (kT : x = y → Go p e below s cm sm Q T (mkF m pt Ls St)) (kF : ¬ (x = y) → Go p e below s cm sm Q T (mkF m pf Ls St)) : Go p e below s cm sm Q T (mkF m pc Ls (.int (lcmpW x y) :: St)) :=
  w_if_eq X hx hd hf ho hp (fun q => kT ((lw_eq x y).1 q)) (fun q => kF (fun r => q ((lw_eq x y).2 r)))
theorem w_icmp_ne (X : Stand p l e R s m args below meth c T locs cells slots) (hx : p.tables.exec = Jvm.exec) {x y : Int32} {o : Int} {pt pf : Nat} (hd : decode c.code pc = .ok (.if_icmp .ne o, 3)) (hf : pc + 3 = pf) (ho : 0 ≤ (pc : Int) + o) (hp : ((pc : Int) + o).toNat = pt)
    (kT : ¬ (x = y) → Go p e below s cm sm Q T (mkF m pt Ls St)) (kF : x = y → Go p e below s cm sm Q T (mkF m pf Ls St)) : Go p e below s cm sm Q T (mkF m pc Ls (.int y :: .int x :: St)) :=
  w_icmp0 X hx hd hf ho hp (fun h => kT (h_ne.1 h)) (fun h => kF (h_ne.2 h))
theorem w_if_ne (X : Stand p l e R s m args below meth c T locs cells slots) (hx : p.tables.exec = Jvm.exec) {x : Int32} {o : Int} {pt pf : Nat} (hd : decode c.code pc = .ok (.ifCond .ne o, 3)) (hf : pc + 3 = pf) (ho : 0 ≤ (pc : Int) + o) (hp : ((pc : Int) + o).toNat = pt)
    (kT : ¬ (x = 0) → Go p e below s cm sm Q T (mkF m pt Ls St)) (kF : x = 0 → Go p e below s cm sm Q T (mkF m pf Ls St)) : Go p e below s cm sm Q T (mkF m pc Ls (.int x :: St)) :=
  w_if0 X hx hd hf ho hp (fun h => kT (h_ne.1 h)) (fun h => kF (h_ne.2 h))
theorem w_ifL_ne (X : Stand p l e R s m args below meth c T locs cells slots) (hx : p.tables.exec = Jvm.exec) {x y : Int64} {o : Int} {pt pf : Nat} (hd : decode c.code pc = .ok (.ifCond .ne o, 3)) (hf : pc + 3 = pf) (ho : 0 ≤ (pc : Int) + o) (hp : ((pc : Int) + o).toNat = pt)
    (kT : ¬ (x = y) → Go p e below s cm sm Q T (mkF m pt Ls St)) (kF : x = y → Go p e below s cm sm Q T (mkF m pf Ls St)) : Go p e below s cm sm Q T (mkF m pc Ls (.int (lcmpW x y) :: St)) :=
  w_if_ne X hx hd hf ho hp (fun q => kT (fun r => q ((lw_eq x y).2 r))) (fun q => kF ((lw_eq x y).1 q))
theorem w_ldc (X : Stand p l e R s m args below meth c T locs cells slots) (hx : p.tables.exec = Jvm.exec) (hZ : Z.Warmed39 s.vm) {own : String} {index : Nat} {v : Int32} (hown : s.vm.findClass own = some m.cls) (w : (Jvm.Cond.constant own index v).before a0 Z = true) (hd : decode c.code pc = .ok (.ldc index, 2)) (hp : pc + 2 = pc')
    (kk : Go p e below s cm sm Q T (mkF m pc' Ls (.int v :: St))) : Go p e below s cm sm Q T (mkF m pc Ls St) := by
  subst hp
  exact Go.st (fun t q => X.ldcInt hx hown (mvT hZ w) (g := mkF m pc Ls St) rfl hd t q) kk
theorem w_ldcw (X : Stand p l e R s m args below meth c T locs cells slots) (hx : p.tables.exec = Jvm.exec) (hZ : Z.Warmed39 s.vm) {own : String} {index : Nat} {v : Int32} (hown : s.vm.findClass own = some m.cls) (w : (Jvm.Cond.constant own index v).before a0 Z = true) (hd : decode c.code pc = .ok (.ldc_w index, 3)) (hp : pc + 3 = pc')
    (kk : Go p e below s cm sm Q T (mkF m pc' Ls (.int v :: St))) : Go p e below s cm sm Q T (mkF m pc Ls St) := by
  subst hp
  exact Go.st (fun t q => X.ldcWI hx hown (mvT hZ w) (g := mkF m pc Ls St) rfl hd q) kk
theorem w_ldc2 (X : Stand p l e R s m args below meth c T locs cells slots) (hx : p.tables.exec = Jvm.exec) (hZ : Z.Warmed39 s.vm) {own : String} {index : Nat} {v : Int64} (hown : s.vm.findClass own = some m.cls) (w : (Jvm.Cond.constantLong own index v).before a0 Z = true) (hd : decode c.code pc = .ok (.ldc2_w index, 3)) (hp : pc + 3 = pc')
    (kk : Go p e below s cm sm Q T (mkF m pc' Ls (.long v :: St))) : Go p e below s cm sm Q T (mkF m pc Ls St) := by
  subst hp
  exact Go.st (fun t q => X.ldc2Long hx hown (mvT hZ w) (g := mkF m pc Ls St) rfl hd t q) kk
theorem w_retZ (X : Stand p l e R s m args below meth c T locs cells slots) (hx : p.tables.exec = Jvm.exec) (hret : meth.sig.returnType = some .boolean) (hlk : meth.locks = false) {z : Int32} (hd : decode c.code pc = .ok (.ireturn, 1)) (hc : cells ≤ cm) (hs : slots ≤ sm) (hQ : Q (some (.int (nar .boolean z))) T.heap locs) : Go p e below s cm sm Q T (mkF m pc Ls (.int z :: St)) := by
  obtain ⟨fs, hr, hrun, hended, hW, hsame⟩ := X.leave (v := some (.int (nar .boolean z))) (fun h => by rw [hret] at h; cases h) hlk
  exact ⟨_, _, retN X hx (t := .boolean) hret (by simp) hd hr, hrun, hended, _, _, rfl, hQ, ⟨_, rfl⟩, hW, hsame.mono hc hs⟩
theorem w_retB (X : Stand p l e R s m args below meth c T locs cells slots) (hx : p.tables.exec = Jvm.exec) (hret : meth.sig.returnType = some .byte) (hlk : meth.locks = false) {z : Int32} (hd : decode c.code pc = .ok (.ireturn, 1)) (hc : cells ≤ cm) (hs : slots ≤ sm) (hQ : Q (some (.int (nar .byte z))) T.heap locs) : Go p e below s cm sm Q T (mkF m pc Ls (.int z :: St)) := by
  obtain ⟨fs, hr, hrun, hended, hW, hsame⟩ := X.leave (v := some (.int (nar .byte z))) (fun h => by rw [hret] at h; cases h) hlk
  exact ⟨_, _, retN X hx (t := .byte) hret (by simp) hd hr, hrun, hended, _, _, rfl, hQ, ⟨_, rfl⟩, hW, hsame.mono hc hs⟩
theorem w_retC (X : Stand p l e R s m args below meth c T locs cells slots) (hx : p.tables.exec = Jvm.exec) (hret : meth.sig.returnType = some .char) (hlk : meth.locks = false) {z : Int32} (hd : decode c.code pc = .ok (.ireturn, 1)) (hc : cells ≤ cm) (hs : slots ≤ sm) (hQ : Q (some (.int (nar .char z))) T.heap locs) : Go p e below s cm sm Q T (mkF m pc Ls (.int z :: St)) := by
  obtain ⟨fs, hr, hrun, hended, hW, hsame⟩ := X.leave (v := some (.int (nar .char z))) (fun h => by rw [hret] at h; cases h) hlk
  exact ⟨_, _, retN X hx (t := .char) hret (by simp) hd hr, hrun, hended, _, _, rfl, hQ, ⟨_, rfl⟩, hW, hsame.mono hc hs⟩
theorem w_retS (X : Stand p l e R s m args below meth c T locs cells slots) (hx : p.tables.exec = Jvm.exec) (hret : meth.sig.returnType = some .short) (hlk : meth.locks = false) {z : Int32} (hd : decode c.code pc = .ok (.ireturn, 1)) (hc : cells ≤ cm) (hs : slots ≤ sm) (hQ : Q (some (.int (nar .short z))) T.heap locs) : Go p e below s cm sm Q T (mkF m pc Ls (.int z :: St)) := by
  obtain ⟨fs, hr, hrun, hended, hW, hsame⟩ := X.leave (v := some (.int (nar .short z))) (fun h => by rw [hret] at h; cases h) hlk
  exact ⟨_, _, retN X hx (t := .short) hret (by simp) hd hr, hrun, hended, _, _, rfl, hQ, ⟨_, rfl⟩, hW, hsame.mono hc hs⟩
theorem w_retI (X : Stand p l e R s m args below meth c T locs cells slots) (hx : p.tables.exec = Jvm.exec) (hret : meth.sig.returnType = some .int) (hlk : meth.locks = false) {z : Int32} (hd : decode c.code pc = .ok (.ireturn, 1)) (hc : cells ≤ cm) (hs : slots ≤ sm) (hQ : Q (some (.int z)) T.heap locs) : Go p e below s cm sm Q T (mkF m pc Ls (.int z :: St)) := by
  obtain ⟨fs, hr, hrun, hended, hW, hsame⟩ := X.leave (v := some (.int z)) (fun h => by rw [hret] at h; cases h) hlk
  refine ⟨T.setFrames fs, _, ?_, hrun, hended, _, _, rfl, hQ, ⟨_, rfl⟩, hW, hsame.mono hc hs⟩
  have hm' : T.vm.method? m = some meth := X.method'
  have hn : narrow .int (.int z) = .int z := rfl
  show Steps p.tables e below (T.setTop { method := m, pc := pc, locals := Ls, stack := .int z :: St, locked := none }) _
  jvm_step X.here [X.here.top, hx, hd, hm', hret, hn]
  first | (intro acts; rw [hr _ acts rfl rfl rfl]) | rw [hr _ _ rfl rfl rfl]
  exact Steps.refl _
theorem w_retJ (X : Stand p l e R s m args below meth c T locs cells slots) (hx : p.tables.exec = Jvm.exec) (hret : meth.sig.returnType = some .long) (hlk : meth.locks = false) {z : Int64} (hd : decode c.code pc = .ok (.lreturn, 1)) (hc : cells ≤ cm) (hs : slots ≤ sm) (hQ : Q (some (.long z)) T.heap locs) : Go p e below s cm sm Q T (mkF m pc Ls [.long z]) := by
  obtain ⟨fs, hr, hrun, hended, hW, hsame⟩ := X.leave (v := some (.long z)) (fun h => by rw [hret] at h; cases h) hlk
  exact ⟨T.setFrames fs, _, X.lreturnOut hx hret hd hr, hrun, hended, _, _, rfl, hQ, ⟨_, rfl⟩, hW, hsame.mono hc hs⟩
theorem w_retV (X : Stand p l e R s m args below meth c T locs cells slots) (hx : p.tables.exec = Jvm.exec) (hret : meth.sig.returnType = none) (hlk : meth.locks = false) (hd : decode c.code pc = .ok (.return_, 1)) (hc : cells ≤ cm) (hs : slots ≤ sm) (hQ : Q none T.heap locs) : Go p e below s cm sm Q T (mkF m pc Ls []) := by
  obtain ⟨fs, hr, hrun, hended, hW, hsame⟩ := X.leave (v := none) (fun _ => rfl) hlk
  exact ⟨T.setFrames fs, _, X.returnOut hx hret hd hr, hrun, hended, _, _, rfl, hQ, ⟨_, rfl⟩, hW, hsame.mono hc hs⟩
theorem w_retA (X : Stand p l e R s m args below meth c T locs cells slots) (hx : p.tables.exec = Jvm.exec) {rt : FieldType} (hret : meth.sig.returnType = some rt) (hrt : rt.isReference = true) (hlk : meth.locks = false) {a : Addr} (hd : decode c.code pc = .ok (.areturn, 1)) (hc : cells ≤ cm) (hs : slots ≤ sm) (hQ : Q (some (.ref a)) T.heap locs) : Go p e below s cm sm Q T (mkF m pc Ls (.ref a :: St)) := by
  obtain ⟨fs, hr, hrun, hended, hW, hsame⟩ := X.leave (v := some (.ref a)) (fun h => by rw [hret] at h; cases h) hlk
  refine ⟨T.setFrames fs, _, ?_, hrun, hended, _, _, rfl, hQ, ⟨_, rfl⟩, hW, hsame.mono hc hs⟩
  have hm' : T.vm.method? m = some meth := X.method'
  show Steps p.tables e below (T.setTop { method := m, pc := pc, locals := Ls, stack := .ref a :: St, locked := none }) _
  jvm_step X.here [X.here.top, hx, hd, hm', hret, Value.isRef, hrt]
  first | (intro acts; rw [hr _ acts rfl rfl rfl]) | rw [hr _ _ rfl rfl rfl]
  exact Steps.refl _
theorem Con.back {y : MethodName} {bytes : ByteArray} {maxL : Nat} {ret : Option FieldType} {rm : Room} {len W : Nat} {as' : Array Value} {Qc : Option Value → Heap → List Loc → Prop} (C : Con l Z y bytes maxL ret rm as' h Qc) (hZ : Z.Warmed39 s.vm) (wc : (Jvm.Cond.code y bytes maxL ret).before a0 Z = true) (wz : (Jvm.Cond.initialized y.cls).before a0 Z = true) (hf : rm.frames + 1 ≤ R.frames) (hl : W + (maxL + 11) + rm.locals ≤ R.locals) :
    Back l R p e below s args y len W (fun A a => a = as' ∧ A.U.heap = h ∧ A.cells + rm.cells ≤ R.cells ∧ A.slots + rm.slots ≤ R.slots) (fun A _ v B => ∃ L, Qc v B.U.heap L ∧ B.locs = A.locs ++ L ∧ B.cells = A.cells + rm.cells ∧ B.slots = A.slots + rm.slots) :=
  backOf (C []) hZ wc wz hf hl
theorem w_callS (X : Stand p l e R s m args below meth c T locs cells slots) (hx : p.tables.exec = Jvm.exec) (hZ : Z.Warmed39 s.vm) {own : String} {index : Nat} {y : MethodName} {bytes : ByteArray} {maxL : Nat} {ret : Option FieldType} {rm : Room} {W : Nat} {argsL rest : List Value} {Qc : Option Value → Heap → List Loc → Prop} (hown : s.vm.findClass own = some m.cls) (eT : T.heap = h) (C : Con l Z y bytes maxL ret rm argsL.toArray h Qc) (w1 : (Jvm.Cond.methodLink own index y).before a0 Z = true) (w2 : (Jvm.Cond.static y).before a0 Z = true) (w3 : (Jvm.Cond.initialized y.cls).before a0 Z = true) (w4 : (Jvm.Cond.code y bytes maxL ret).before a0 Z = true) (hy : y.cls ≠ "java/lang/invoke/MethodHandle" ∧ y.cls ≠ "java/lang/invoke/VarHandle")
    (hf : rm.frames + 1 ≤ R.frames) (hl : W + (maxL + 11) + rm.locals ≤ R.locals) (hc : cells + rm.cells ≤ R.cells) (hs : slots + rm.slots ≤ R.slots) (hsz : Ls.size = c.maxLocals) (hlen : ∀ sig, parseMethodDescriptor y.desc = some sig → argsL.length = sig.parameters.length) (hW : (rest.map fun v => v.category).sum ≤ W) (hst : St = argsL.reverse ++ rest) (hd : decode c.code pc = .ok (.invokestatic index, 3)) (hp : pc + 3 = pc')
    (kk : ∀ (T' : State) (L : List Loc) (v : Option Value), Stand p l e R s m args below meth c T' (locs ++ L) (cells + rm.cells) (slots + rm.slots) → Qc v T'.heap L → Go p e below s cm sm Q T' (mkF m pc' Ls (v.toList ++ rest))) : Go p e below s cm sm Q T (mkF m pc Ls St) := by
  subst hp hst
  obtain ⟨v, _, ⟨T1, L1, k1, n1⟩, -, X1, ⟨Lc, hQ, l1, y1, z1⟩, st⟩ := Jvm.LawKit.callS X hx (y := y) hown (mvT hZ w1) (mvT hZ w2) (mvT hZ w3) (mvT hZ w4) hy (C.back (W := W) hZ w4 w3 hf hl) (g := mkF m pc Ls (argsL.reverse ++ rest)) rfl hsz (argsL := argsL) (rest := rest) hlen rfl (by show 2 * 0 + _ ≤ _; rw [Nat.mul_zero, Nat.zero_add]; exact hW) hd (fun _ _ => ⟨rfl, eT, hc, hs⟩)
  dsimp only [Pt.U, Pt.locs, Pt.cells, Pt.slots] at X1 l1 y1 z1 st hQ
  subst l1 y1 z1
  exact Go.st st (kk _ _ _ X1 hQ)
theorem w_callI (X : Stand p l e R s m args below meth c T locs cells slots) (hx : p.tables.exec = Jvm.exec) (hZ : Z.Warmed39 s.vm) {own : String} {index : Nat} {y : MethodName} {bytes : ByteArray} {maxL : Nat} {rm : Room} {W : Nat} {argsL rest : List Value} {Qc : Option Value → Heap → List Loc → Prop} {a : Addr} (hown : s.vm.findClass own = some m.cls) (eT : T.heap = h) (C : Con l Z y bytes maxL none rm (.ref a :: argsL).toArray h Qc) (hn : y.name = "<init>") (w1 : (Jvm.Cond.methodLink own index y).before a0 Z = true) (w2 : (Jvm.Cond.instanceMethod y).before a0 Z = true) (w3 : (Jvm.Cond.initialized y.cls).before a0 Z = true) (w4 : (Jvm.Cond.code y bytes maxL none).before a0 Z = true) (hy : y.cls ≠ "java/lang/invoke/MethodHandle" ∧ y.cls ≠ "java/lang/invoke/VarHandle")
    (hf : rm.frames + 1 ≤ R.frames) (hl : W + (maxL + 11) + rm.locals ≤ R.locals) (hc : cells + rm.cells ≤ R.cells) (hs : slots + rm.slots ≤ R.slots) (hsz : Ls.size = c.maxLocals) (hlen : ∀ sig, parseMethodDescriptor y.desc = some sig → argsL.length = sig.parameters.length) (hW : (rest.map fun v => v.category).sum ≤ W) (hst : St = argsL.reverse ++ .ref a :: rest) (hd : decode c.code pc = .ok (.invokespecial index, 3)) (hp : pc + 3 = pc')
    (kk : ∀ (T' : State) (L : List Loc) (v : Option Value), Stand p l e R s m args below meth c T' (locs ++ L) (cells + rm.cells) (slots + rm.slots) → Qc v T'.heap L → Go p e below s cm sm Q T' (mkF m pc' Ls (v.toList ++ rest))) : Go p e below s cm sm Q T (mkF m pc Ls St) := by
  subst hp hst
  obtain ⟨v, _, ⟨T1, L1, k1, n1⟩, -, X1, ⟨Lc, hQ, l1, y1, z1⟩, st⟩ := X.specialBack hx (y := y) hn hown (mvT hZ w1) (mvT hZ w2) (mvT hZ w4) hy (C.back (W := W) hZ w4 w3 hf hl) (g := mkF m pc Ls (argsL.reverse ++ .ref a :: rest)) rfl hsz (Steps.refl _) (a := a) (argsL := argsL) (rest := rest) hlen rfl (by show 2 * 0 + _ ≤ _; rw [Nat.mul_zero, Nat.zero_add]; exact hW) hd (fun _ _ => ⟨rfl, eT, hc, hs⟩)
  dsimp only [Pt.U, Pt.locs, Pt.cells, Pt.slots] at X1 l1 y1 z1 st hQ
  subst l1 y1 z1
  exact Go.st (fun t q => st.trans q) (kk _ _ _ X1 hQ)
theorem w_callV (X : Stand p l e R s m args below meth c T locs cells slots) (hx : p.tables.exec = Jvm.exec) (hZ : Z.Warmed39 s.vm) {own : String} {index : Nat} {y : MethodName} {bytes : ByteArray} {maxL : Nat} {ret : Option FieldType} {rm : Room} {W : Nat} {argsL rest : List Value} {Qc : Option Value → Heap → List Loc → Prop} {a : Addr} (hown : s.vm.findClass own = some m.cls) (eT : T.heap = h) (E : Exa Z h a y.cls) (C : Con l Z y bytes maxL ret rm (.ref a :: argsL).toArray h Qc) (w1 : (Jvm.Cond.methodLink own index y).before a0 Z = true) (wd : (Jvm.Cond.declares y).before a0 Z = true) (ws : (Jvm.Cond.selects y.cls y y).before a0 Z = true) (w2 : (Jvm.Cond.instanceMethod y).before a0 Z = true) (w3 : (Jvm.Cond.initialized y.cls).before a0 Z = true) (w4 : (Jvm.Cond.code y bytes maxL ret).before a0 Z = true) (hy : y.cls ≠ "java/lang/invoke/MethodHandle" ∧ y.cls ≠ "java/lang/invoke/VarHandle")
    (hf : rm.frames + 1 ≤ R.frames) (hl : W + (maxL + 11) + rm.locals ≤ R.locals) (hc : cells + rm.cells ≤ R.cells) (hs : slots + rm.slots ≤ R.slots) (hsz : Ls.size = c.maxLocals) (hlen : ∀ sig, parseMethodDescriptor y.desc = some sig → argsL.length = sig.parameters.length) (hW : (rest.map fun v => v.category).sum ≤ W) (hst : St = argsL.reverse ++ .ref a :: rest) (hd : decode c.code pc = .ok (.invokevirtual index, 3)) (hp : pc + 3 = pc')
    (kk : ∀ (T' : State) (L : List Loc) (v : Option Value), Stand p l e R s m args below meth c T' (locs ++ L) (cells + rm.cells) (slots + rm.slots) → Qc v T'.heap L → Go p e below s cm sm Q T' (mkF m pc' Ls (v.toList ++ rest))) : Go p e below s cm sm Q T (mkF m pc Ls St) := by
  subst hp hst
  obtain ⟨cq, kq, qa, qb, qc⟩ := isOf hZ eT E
  obtain ⟨v, _, ⟨T1, L1, k1, n1⟩, -, X1, ⟨Lc, hQ, l1, y1, z1⟩, st⟩ := X.virtualBack hx (y := y) (z := y) hown (mvT hZ w1) (mvT hZ wd) (notFace_of_selects (args := #[]) (mvT hZ ws)) (mvT hZ ws) (mvT hZ w2) hy (C.back (W := W) hZ w4 w3 hf hl) qa qc (g := mkF m pc Ls (argsL.reverse ++ .ref a :: rest)) rfl hsz (Steps.refl _) (argsL := argsL) (rest := rest) hlen rfl (by show 2 * 0 + _ ≤ _; rw [Nat.mul_zero, Nat.zero_add]; exact hW) hd (fun _ _ => ⟨rfl, eT, hc, hs⟩)
  dsimp only [Pt.U, Pt.locs, Pt.cells, Pt.slots] at X1 l1 y1 z1 st hQ
  subst l1 y1 z1
  exact Go.st (fun t q => st.trans q) (kk _ _ _ X1 hQ)
theorem w_initO (X : Stand p l e R s m args below meth c T locs cells slots) (hx : p.tables.exec = Jvm.exec) (hZ : Z.Warmed39 s.vm) {own : String} {index : Nat} {a : Addr} (hown : s.vm.findClass own = some m.cls) (eT : T.heap = h) (w1 : (Jvm.Cond.methodLink own index Lib.objectInit).before a0 Z = true) (w2 : (Jvm.Cond.instanceMethod Lib.objectInit).before a0 Z = true) (w3 : (Jvm.Cond.code Lib.objectInit ⟨#[0xb1]⟩ 1 none).before a0 Z = true) (hsz : Ls.size = c.maxLocals) (hd : decode c.code pc = .ok (.invokespecial index, 3)) (hf : 1 ≤ R.frames) {W : Nat} (hW : (St.map fun v => v.category).sum ≤ W) (hl : W + 12 ≤ R.locals) (hp : pc + 3 = pc')
    (kk : ∀ T' : State, Stand p l e R s m args below meth c T' locs cells slots → T'.heap = h → Go p e below s cm sm Q T' (mkF m pc' Ls St)) : Go p e below s cm sm Q T (mkF m pc Ls (.ref a :: St)) := by
  subst hp
  obtain ⟨T1, X1, e1, st⟩ := initO X hx hZ hown w1 w2 w3 eT (g := mkF m pc Ls (.ref a :: St)) rfl hsz rfl hd hf (W := W) (by show 2 * 0 + _ ≤ _; rw [Nat.mul_zero, Nat.zero_add]; exact hW) hl
  exact Go.st st (kk _ X1 e1)
theorem w_getF (X : Stand p l e R s m args below meth c T locs cells slots) (hx : p.tables.exec = Jvm.exec) (hZ : Z.Warmed39 s.vm) {own O n d : String} {index : Nat} {a : Addr} {v : Value} (hown : s.vm.findClass own = some m.cls) (eT : T.heap = h) (F : Fld Z h a O n d v) (w : (Jvm.Cond.fieldLink own index O n d).before a0 Z = true) (hd : decode c.code pc = .ok (.getfield index, 3)) (hp : pc + 3 = pc')
    (kk : ∀ T' : State, Stand p l e R s m args below meth c T' locs cells slots → T'.heap = h → Go p e below s cm sm Q T' (mkF m pc' Ls (v :: St))) : Go p e below s cm sm Q T (mkF m pc Ls (.ref a :: St)) := by
  subst hp
  obtain ⟨T1, X1, e1, st⟩ := getF X hx hZ hown (host := "") (Or.inl w) Via.refl eT F (g := mkF m pc Ls (.ref a :: St)) rfl rfl hd
  exact Go.st st (kk _ X1 e1)
theorem w_putF (X : Stand p l e R s m args below meth c T locs cells slots) (hx : p.tables.exec = Jvm.exec) (hZ : Z.Warmed39 s.vm) {own O n d C : String} {index kn : Nat} {ty : FieldType} {a : Addr} {v old : Value} (hown : s.vm.findClass own = some m.cls) (eT : T.heap = h) (F : Fld Z h a O n d old) (E : Exa Z h a C) (w : (Jvm.Cond.fieldLink own index O n d).before a0 Z = true) (L : (Jvm.Cond.lays C O n d).before a0 Z = true ∨ ((Jvm.Cond.laysFinal C O n d).before a0 Z = true ∧ own = O ∧ meth.name = "<init>")) (wi : (Jvm.Cond.instantiable C kn).before a0 Z = true) (hty : parseFieldDescriptor d = some ty) (hn : narrow ty v = v) (hf : fits ty v = true) (hd : decode c.code pc = .ok (.putfield index, 3)) (hp : pc + 3 = pc')
    (kk : ∀ (T' : State) (h' : Heap), Stand p l e R s m args below meth c T' (locs ++ [⟨a, RoadKit.slotOf Z O n d⟩]) cells slots → T'.heap = h' → Wr h h' a (RoadKit.slotOf Z O n d) v → Go p e below s cm sm Q T' (mkF m pc' Ls St)) : Go p e below s cm sm Q T (mkF m pc Ls (v :: .ref a :: St)) := by
  subst hp
  obtain ⟨T1, h1, X1, e1, W1, st⟩ := putF X hx hZ hown (host := "") (Or.inl w) Via.refl eT F E L wi hty hn hf (g := mkF m pc Ls (v :: .ref a :: St)) rfl rfl hd
  exact Go.st st (kk _ _ X1 e1 W1)
theorem w_newO (X : Stand p l e R s m args below meth c T locs cells slots) (hx : p.tables.exec = Jvm.exec) (hZ : Z.Warmed39 s.vm) {own C : String} {index kn : Nat} (hown : s.vm.findClass own = some m.cls) (eT : T.heap = h) (w : (Jvm.Cond.classLink own index C).before a0 Z = true) (wi : (Jvm.Cond.instantiable C kn).before a0 Z = true) (wz : (Jvm.Cond.initialized C).before a0 Z = true) (hd : decode c.code pc = .ok (.new index, 3)) (hc : cells + 1 ≤ R.cells) (hl : slots + kn ≤ R.slots) (hp : pc + 3 = pc')
    (kk : ∀ (T' : State) (h' : Heap) (b : Addr), Stand p l e R s m args below meth c T' locs (cells + 1) (slots + kn) → T'.heap = h' → Ext h h' → b = h.size → Exa Z h' b C → (∀ {O nm d : String} {ty : FieldType}, Laid Z a0 C O nm d → parseFieldDescriptor d = some ty → Fld Z h' b O nm d (defaultValue ty)) → Go p e below s cm sm Q T' (mkF m pc' Ls (.ref b :: St))) : Go p e below s cm sm Q T (mkF m pc Ls St) := by
  subst hp
  obtain ⟨T1, h1, X1, e1, E1, A1, D1, -, st⟩ := newO X hx hZ hown w wi wz eT (g := mkF m pc Ls St) rfl hd hc hl
  exact Go.st st (kk _ _ _ X1 e1 E1 rfl A1 D1)
/-- an array of ints, bytes, chars, shorts or booleans, by its list -/
def AI (Z : State) (h : Heap) (a : Addr) (ty : FieldType) (vs : List Int32) : Prop := ∃ c : Cell, Arr Z h a c ty ∧ c.slots.toList = vs.map Value.int ∧ vs.length < 2147483648
/-- an array of longs, by its list -/
def AJ (Z : State) (h : Heap) (a : Addr) (vs : List Int64) : Prop := ∃ c : Cell, Arr Z h a c .long ∧ c.slots.toList = vs.map Value.long ∧ vs.length < 2147483648
theorem AI.lt {a : Addr} {ty : FieldType} {vs : List Int32} (F : AI Z h a ty vs) : a < h.size := by obtain ⟨c, q, -⟩ := F; exact q.lt
theorem AI.ext {a : Addr} {ty : FieldType} {vs : List Int32} (F : AI Z h a ty vs) (E : Ext h h') : AI Z h' a ty vs := by obtain ⟨c, q, r⟩ := F; exact ⟨c, q.ext E, r⟩
theorem AI.other {a b : Addr} {ty : FieldType} {vs : List Int32} {sl : Nat} {v : Value} (F : AI Z h a ty vs) (W : Wr h h' b sl v) (q : a ≠ b) : AI Z h' a ty vs := by obtain ⟨c, A, r⟩ := F; exact ⟨c, A.other W q, r⟩
theorem AI.keep {a : Addr} {ty : FieldType} {vs : List Int32} {ws : List Addr} (F : AI Z h a ty vs) (K : Keep h h' ws) (q : a ∉ ws) : AI Z h' a ty vs := by obtain ⟨c, A, r⟩ := F; exact ⟨c, ⟨K.2.1 a c A.1 q, A.2⟩, r⟩
theorem AI.new {a : Addr} {k : ClassId} {z : Int32} {ty : FieldType} (A : Arr Z h a (newA k ty z) ty) (hd : defaultValue ty = .int 0) : AI Z h a ty (List.replicate z.toNatClampNeg 0) := by
  refine ⟨_, A, ?_, ?_⟩
  · simp [newA, hd]
  · have := z.toInt_lt; rw [List.length_replicate]; show z.toInt.toNat < _; omega
theorem AI.wr {a : Addr} {ty : FieldType} {vs : List Int32} {j : Nat} {x : Int32} (F : AI Z h a ty vs) (W : Wr h h' a j (Value.int x)) : AI Z h' a ty (vs.set j x) := by
  obtain ⟨c, A, q, r⟩ := F
  refine ⟨_, A.same W, ?_, by simpa using r⟩
  simp [Cell.setSlot, q, List.map_set]
theorem AI.len {a : Addr} {ty : FieldType} {vs : List Int32} (F : AI Z h a ty vs) : vs.length < 2147483648 := by obtain ⟨c, q, r, t⟩ := F; exact t
theorem AI.sz {vs : List Int32} {c : Cell} (q : c.slots.toList = vs.map Value.int) : c.slots.size = vs.length := by
  have := congrArg List.length q; simpa using this
theorem AI.at {vs : List Int32} {c : Cell} {j : Nat} {x : Int32} (q : c.slots.toList = vs.map Value.int) (hv : vs[j]? = some x) : c.slots[j]? = some (Value.int x) := by
  rw [← Array.getElem?_toList, q]; simp [hv]
theorem AI.inb {vs : List Int32} {c : Cell} {j : Int32} (q : c.slots.toList = vs.map Value.int) (hj : ¬ j < 0) (hl : j.toNatClampNeg < vs.length) : ¬ (j < 0 ∨ c.slots.size ≤ j.toNatClampNeg) := by
  have := AI.sz q
  rw [this]
  rintro (r | r)
  · exact hj r
  · omega
theorem AJ.lt {a : Addr} {vs : List Int64} (F : AJ Z h a vs) : a < h.size := by obtain ⟨c, q, -⟩ := F; exact q.lt
theorem AJ.ext {a : Addr} {vs : List Int64} (F : AJ Z h a vs) (E : Ext h h') : AJ Z h' a vs := by obtain ⟨c, q, r⟩ := F; exact ⟨c, q.ext E, r⟩
theorem AJ.other {a b : Addr} {vs : List Int64} {sl : Nat} {v : Value} (F : AJ Z h a vs) (W : Wr h h' b sl v) (q : a ≠ b) : AJ Z h' a vs := by obtain ⟨c, A, r⟩ := F; exact ⟨c, A.other W q, r⟩
theorem AJ.keep {a : Addr} {vs : List Int64} {ws : List Addr} (F : AJ Z h a vs) (K : Keep h h' ws) (q : a ∉ ws) : AJ Z h' a vs := by obtain ⟨c, A, r⟩ := F; exact ⟨c, ⟨K.2.1 a c A.1 q, A.2⟩, r⟩
theorem AJ.new {a : Addr} {k : ClassId} {z : Int32} (A : Arr Z h a (newA k .long z) .long) : AJ Z h a (List.replicate z.toNatClampNeg 0) := by
  refine ⟨_, A, ?_, ?_⟩
  · simp [newA, defaultValue]
  · have := z.toInt_lt; rw [List.length_replicate]; show z.toInt.toNat < _; omega
theorem AJ.wr {a : Addr} {vs : List Int64} {j : Nat} {x : Int64} (F : AJ Z h a vs) (W : Wr h h' a j (Value.long x)) : AJ Z h' a (vs.set j x) := by
  obtain ⟨c, A, q, r⟩ := F
  refine ⟨_, A.same W, ?_, by simpa using r⟩
  simp [Cell.setSlot, q, List.map_set]
theorem AJ.len {a : Addr} {vs : List Int64} (F : AJ Z h a vs) : vs.length < 2147483648 := by obtain ⟨c, q, r, t⟩ := F; exact t
theorem AJ.sz {vs : List Int64} {c : Cell} (q : c.slots.toList = vs.map Value.long) : c.slots.size = vs.length := by
  have := congrArg List.length q; simpa using this
theorem AJ.at {vs : List Int64} {c : Cell} {j : Nat} {x : Int64} (q : c.slots.toList = vs.map Value.long) (hv : vs[j]? = some x) : c.slots[j]? = some (Value.long x) := by
  rw [← Array.getElem?_toList, q]; simp [hv]
theorem AJ.inb {vs : List Int64} {c : Cell} {j : Int32} (q : c.slots.toList = vs.map Value.long) (hj : ¬ j < 0) (hl : j.toNatClampNeg < vs.length) : ¬ (j < 0 ∨ c.slots.size ≤ j.toNatClampNeg) := by
  have := AJ.sz q
  rw [this]
  rintro (r | r)
  · exact hj r
  · omega
theorem w_iaload (X : Stand p l e R s m args below meth c T locs cells slots) (hx : p.tables.exec = Jvm.exec) (hZ : Z.Warmed39 s.vm) {a : Addr} {vs : List Int32} {j : Int32} {v : Int32} (eT : T.heap = h) (F : AI Z h a .int vs) (hj : ¬ j < 0) (hv : vs[j.toNatClampNeg]? = some v) (hd : decode c.code pc = .ok (.iaload, 1)) (hp : pc + 1 = pc')
    (kk : Go p e below s cm sm Q T (mkF m pc' Ls (Value.int v :: St))) : Go p e below s cm sm Q T (mkF m pc Ls (.int j :: .ref a :: St)) := by
  subst hp
  obtain ⟨cl, A, q, r⟩ := F
  exact Go.st (fun t k => X.iaload hx (j := j) (v := Value.int v) (by rw [eT]; exact A.1) (State.isArrayOf_alike hZ.alike A.2.1) A.2.2 (AI.inb q hj (List.getElem?_eq_some_iff.mp hv).1) (AI.at q hv) (g := mkF m pc Ls (.int j :: .ref a :: St)) rfl rfl hd t k) kk
theorem w_baload (X : Stand p l e R s m args below meth c T locs cells slots) (hx : p.tables.exec = Jvm.exec) (hZ : Z.Warmed39 s.vm) {a : Addr} {vs : List Int32} {j : Int32} {v : Int32} (eT : T.heap = h) (F : AI Z h a .byte vs) (hj : ¬ j < 0) (hv : vs[j.toNatClampNeg]? = some v) (hd : decode c.code pc = .ok (.baload, 1)) (hp : pc + 1 = pc')
    (kk : Go p e below s cm sm Q T (mkF m pc' Ls (Value.int v :: St))) : Go p e below s cm sm Q T (mkF m pc Ls (.int j :: .ref a :: St)) := by
  subst hp
  obtain ⟨cl, A, q, r⟩ := F
  exact Go.st (fun t k => X.baloadBytes hx (j := j) (v := Value.int v) (by rw [eT]; exact A.1) (State.isArrayOf_alike hZ.alike A.2.1) A.2.2 (AI.inb q hj (List.getElem?_eq_some_iff.mp hv).1) (AI.at q hv) (g := mkF m pc Ls (.int j :: .ref a :: St)) rfl rfl hd t k) kk
theorem w_laload (X : Stand p l e R s m args below meth c T locs cells slots) (hx : p.tables.exec = Jvm.exec) (hZ : Z.Warmed39 s.vm) {a : Addr} {vs : List Int64} {j : Int32} {v : Int64} (eT : T.heap = h) (F : AJ Z h a vs) (hj : ¬ j < 0) (hv : vs[j.toNatClampNeg]? = some v) (hd : decode c.code pc = .ok (.laload, 1)) (hp : pc + 1 = pc')
    (kk : Go p e below s cm sm Q T (mkF m pc' Ls (Value.long v :: St))) : Go p e below s cm sm Q T (mkF m pc Ls (.int j :: .ref a :: St)) := by
  subst hp
  obtain ⟨cl, A, q, r⟩ := F
  exact Go.st (fun t k => X.laload hx (j := j) (v := Value.long v) (by rw [eT]; exact A.1) (State.isArrayOf_alike hZ.alike A.2.1) A.2.2 (AJ.inb q hj (List.getElem?_eq_some_iff.mp hv).1) (AJ.at q hv) (g := mkF m pc Ls (.int j :: .ref a :: St)) rfl rfl hd t k) kk
theorem w_iastore (X : Stand p l e R s m args below meth c T locs cells slots) (hx : p.tables.exec = Jvm.exec) (hZ : Z.Warmed39 s.vm) {a : Addr} {vs : List Int32} {j : Int32} {x : Int32} (eT : T.heap = h) (F : AI Z h a .int vs) (hj : ¬ j < 0) (hl : j.toNatClampNeg < vs.length) (hd : decode c.code pc = .ok (.iastore, 1)) (hp : pc + 1 = pc')
    (kk : ∀ (T' : State) (h' : Heap), Stand p l e R s m args below meth c T' (locs ++ [⟨a, j.toNatClampNeg⟩]) cells slots → T'.heap = h' → Wr h h' a j.toNatClampNeg (Value.int x) → AI Z h' a .int (vs.set j.toNatClampNeg x) → Go p e below s cm sm Q T' (mkF m pc' Ls St)) : Go p e below s cm sm Q T (mkF m pc Ls (Value.int x :: .int j :: .ref a :: St)) := by
  subst hp
  obtain ⟨cl, A, q, r⟩ := F
  obtain ⟨T1, h1, X1, e1, W1, st⟩ := RoadKit.stI X hx hZ eT A (j := j) (x := x) (AI.inb q hj hl) (g := mkF m pc Ls (Value.int x :: .int j :: .ref a :: St)) rfl rfl hd
  exact Go.st st (kk _ _ X1 e1 W1 (AI.wr ⟨cl, A, q, r⟩ W1))
theorem w_bastore (X : Stand p l e R s m args below meth c T locs cells slots) (hx : p.tables.exec = Jvm.exec) (hZ : Z.Warmed39 s.vm) {a : Addr} {vs : List Int32} {j : Int32} {x : Int32} (eT : T.heap = h) (F : AI Z h a .byte vs) (hj : ¬ j < 0) (hl : j.toNatClampNeg < vs.length) (hd : decode c.code pc = .ok (.bastore, 1)) (hp : pc + 1 = pc')
    (kk : ∀ (T' : State) (h' : Heap), Stand p l e R s m args below meth c T' (locs ++ [⟨a, j.toNatClampNeg⟩]) cells slots → T'.heap = h' → Wr h h' a j.toNatClampNeg (Value.int (nar .byte x)) → AI Z h' a .byte (vs.set j.toNatClampNeg (nar .byte x)) → Go p e below s cm sm Q T' (mkF m pc' Ls St)) : Go p e below s cm sm Q T (mkF m pc Ls (Value.int x :: .int j :: .ref a :: St)) := by
  subst hp
  obtain ⟨cl, A, q, r⟩ := F
  obtain ⟨T1, h1, X1, e1, W1, st⟩ := RoadKit.stB X hx hZ eT A (j := j) (x := x) (AI.inb q hj hl) (g := mkF m pc Ls (Value.int x :: .int j :: .ref a :: St)) rfl rfl hd
  exact Go.st st (kk _ _ X1 e1 W1 (AI.wr ⟨cl, A, q, r⟩ W1))
theorem w_lastore (X : Stand p l e R s m args below meth c T locs cells slots) (hx : p.tables.exec = Jvm.exec) (hZ : Z.Warmed39 s.vm) {a : Addr} {vs : List Int64} {j : Int32} {x : Int64} (eT : T.heap = h) (F : AJ Z h a vs) (hj : ¬ j < 0) (hl : j.toNatClampNeg < vs.length) (hd : decode c.code pc = .ok (.lastore, 1)) (hp : pc + 1 = pc')
    (kk : ∀ (T' : State) (h' : Heap), Stand p l e R s m args below meth c T' (locs ++ [⟨a, j.toNatClampNeg⟩]) cells slots → T'.heap = h' → Wr h h' a j.toNatClampNeg (Value.long x) → AJ Z h' a (vs.set j.toNatClampNeg x) → Go p e below s cm sm Q T' (mkF m pc' Ls St)) : Go p e below s cm sm Q T (mkF m pc Ls (Value.long x :: .int j :: .ref a :: St)) := by
  subst hp
  obtain ⟨cl, A, q, r⟩ := F
  obtain ⟨T1, h1, X1, e1, W1, st⟩ := RoadKit.stJ X hx hZ eT A (j := j) (x := x) (AJ.inb q hj hl) (g := mkF m pc Ls (Value.long x :: .int j :: .ref a :: St)) rfl rfl hd
  exact Go.st st (kk _ _ X1 e1 W1 (AJ.wr ⟨cl, A, q, r⟩ W1))
theorem w_alenI (X : Stand p l e R s m args below meth c T locs cells slots) (hx : p.tables.exec = Jvm.exec) (hZ : Z.Warmed39 s.vm) {a : Addr} {ty : FieldType} {vs : List Int32} {n : Int32} (eT : T.heap = h) (F : AI Z h a ty vs) (hn : vs.length.toInt32 = n) (hd : decode c.code pc = .ok (.arraylength, 1)) (hp : pc + 1 = pc')
    (kk : Go p e below s cm sm Q T (mkF m pc' Ls (.int n :: St))) : Go p e below s cm sm Q T (mkF m pc Ls (.ref a :: St)) := by
  subst hp hn
  obtain ⟨cl, A, q, r⟩ := F
  have hs := AI.sz q
  exact Go.st (fun t k => X.arraylength hx (by rw [eT]; exact A.1) (State.isArrayOf_alike hZ.alike A.2.1) (g := mkF m pc Ls (.ref a :: St)) rfl rfl hd t (by rw [hs]; exact k)) kk
theorem w_alenJ (X : Stand p l e R s m args below meth c T locs cells slots) (hx : p.tables.exec = Jvm.exec) (hZ : Z.Warmed39 s.vm) {a : Addr} {vs : List Int64} {n : Int32} (eT : T.heap = h) (F : AJ Z h a vs) (hn : vs.length.toInt32 = n) (hd : decode c.code pc = .ok (.arraylength, 1)) (hp : pc + 1 = pc')
    (kk : Go p e below s cm sm Q T (mkF m pc' Ls (.int n :: St))) : Go p e below s cm sm Q T (mkF m pc Ls (.ref a :: St)) := by
  subst hp hn
  obtain ⟨cl, A, q, r⟩ := F
  have hs := AJ.sz q
  exact Go.st (fun t k => X.arraylength hx (by rw [eT]; exact A.1) (State.isArrayOf_alike hZ.alike A.2.1) (g := mkF m pc Ls (.ref a :: St)) rfl rfl hd t (by rw [hs]; exact k)) kk
theorem w_newI (X : Stand p l e R s m args below meth c T locs cells slots) (hx : p.tables.exec = Jvm.exec) (hZ : Z.Warmed39 s.vm) {n : Int32} {cap : Nat} (eT : T.heap = h) (w : (Jvm.Cond.arrayClass .int).before a0 Z = true) (hn : ¬ n < 0) (hcap : n.toNatClampNeg ≤ cap) (hb : cap * 8 ≤ 536870912) (hc : cells + 1 ≤ R.cells) (hl : slots + cap ≤ R.slots) (hd : decode c.code pc = .ok (.newarray .int, 2)) (hp : pc + 2 = pc')
    (kk : ∀ (T' : State) (h' : Heap) (b : Addr), Stand p l e R s m args below meth c T' locs (cells + 1) (slots + cap) → T'.heap = h' → Ext h h' → b = h.size → AI Z h' b .int (List.replicate n.toNatClampNeg 0) → Go p e below s cm sm Q T' (mkF m pc' Ls (.ref b :: St))) : Go p e below s cm sm Q T (mkF m pc Ls (.int n :: St)) := by
  subst hp
  obtain ⟨T1, h1, k1, X1, e1, E1, A1, st⟩ := newP X hx hZ (aty := .int) w eT (g := mkF m pc Ls (.int n :: St)) rfl hd rfl hn (cap := cap) hcap hb hc hl
  exact Go.st st (kk _ _ _ X1 e1 E1 rfl (AI.new A1 rfl))
theorem w_newB (X : Stand p l e R s m args below meth c T locs cells slots) (hx : p.tables.exec = Jvm.exec) (hZ : Z.Warmed39 s.vm) {n : Int32} {cap : Nat} (eT : T.heap = h) (w : (Jvm.Cond.arrayClass .byte).before a0 Z = true) (hn : ¬ n < 0) (hcap : n.toNatClampNeg ≤ cap) (hb : cap * 8 ≤ 536870912) (hc : cells + 1 ≤ R.cells) (hl : slots + cap ≤ R.slots) (hd : decode c.code pc = .ok (.newarray .byte, 2)) (hp : pc + 2 = pc')
    (kk : ∀ (T' : State) (h' : Heap) (b : Addr), Stand p l e R s m args below meth c T' locs (cells + 1) (slots + cap) → T'.heap = h' → Ext h h' → b = h.size → AI Z h' b .byte (List.replicate n.toNatClampNeg 0) → Go p e below s cm sm Q T' (mkF m pc' Ls (.ref b :: St))) : Go p e below s cm sm Q T (mkF m pc Ls (.int n :: St)) := by
  subst hp
  obtain ⟨T1, h1, k1, X1, e1, E1, A1, st⟩ := newP X hx hZ (aty := .byte) w eT (g := mkF m pc Ls (.int n :: St)) rfl hd rfl hn (cap := cap) hcap hb hc hl
  exact Go.st st (kk _ _ _ X1 e1 E1 rfl (AI.new A1 rfl))
theorem w_newJ (X : Stand p l e R s m args below meth c T locs cells slots) (hx : p.tables.exec = Jvm.exec) (hZ : Z.Warmed39 s.vm) {n : Int32} {cap : Nat} (eT : T.heap = h) (w : (Jvm.Cond.arrayClass .long).before a0 Z = true) (hn : ¬ n < 0) (hcap : n.toNatClampNeg ≤ cap) (hb : cap * 8 ≤ 536870912) (hc : cells + 1 ≤ R.cells) (hl : slots + cap ≤ R.slots) (hd : decode c.code pc = .ok (.newarray .long, 2)) (hp : pc + 2 = pc')
    (kk : ∀ (T' : State) (h' : Heap) (b : Addr), Stand p l e R s m args below meth c T' locs (cells + 1) (slots + cap) → T'.heap = h' → Ext h h' → b = h.size → AJ Z h' b (List.replicate n.toNatClampNeg 0) → Go p e below s cm sm Q T' (mkF m pc' Ls (.ref b :: St))) : Go p e below s cm sm Q T (mkF m pc Ls (.int n :: St)) := by
  subst hp
  obtain ⟨T1, h1, k1, X1, e1, E1, A1, st⟩ := newP X hx hZ (aty := .long) w eT (g := mkF m pc Ls (.int n :: St)) rfl hd rfl hn (cap := cap) hcap hb hc hl
  exact Go.st st (kk _ _ _ X1 e1 E1 rfl (AJ.new A1))
theorem w_callP (X : Stand p l e R s m args below meth c T locs cells slots) (hx : p.tables.exec = Jvm.exec) (hZ : Z.Warmed39 s.vm) {own : String} {index : Nat} {y : MethodName} {bytes : ByteArray} {maxL : Nat} {ret : Option FieldType} {rm : Room} {W : Nat} {argsL rest : List Value} {Qc : Option Value → Heap → List Loc → Prop} {a : Addr} (hown : s.vm.findClass own = some m.cls) (eT : T.heap = h) (E : Exa Z h a y.cls) (C : Con l Z y bytes maxL ret rm (.ref a :: argsL).toArray h Qc) (w1 : (Jvm.Cond.methodLink own index y).before a0 Z = true) (w2 : (Jvm.Cond.instanceMethod y).before a0 Z = true) (ws : (Jvm.Cond.selects y.cls y y).before a0 Z = true) (wp : (Jvm.Cond.privateMethod y).before a0 Z = true) (w3 : (Jvm.Cond.initialized y.cls).before a0 Z = true) (w4 : (Jvm.Cond.code y bytes maxL ret).before a0 Z = true) (hy : y.cls ≠ "java/lang/invoke/MethodHandle" ∧ y.cls ≠ "java/lang/invoke/VarHandle")
    (hf : rm.frames + 1 ≤ R.frames) (hl : W + (maxL + 11) + rm.locals ≤ R.locals) (hc : cells + rm.cells ≤ R.cells) (hs : slots + rm.slots ≤ R.slots) (hsz : Ls.size = c.maxLocals) (hlen : ∀ sig, parseMethodDescriptor y.desc = some sig → argsL.length = sig.parameters.length) (hW : (rest.map fun v => v.category).sum ≤ W) (hst : St = argsL.reverse ++ .ref a :: rest) (hd : decode c.code pc = .ok (.invokevirtual index, 3)) (hp : pc + 3 = pc')
    (kk : ∀ (T' : State) (L : List Loc) (v : Option Value), Stand p l e R s m args below meth c T' (locs ++ L) (cells + rm.cells) (slots + rm.slots) → Qc v T'.heap L → Go p e below s cm sm Q T' (mkF m pc' Ls (v.toList ++ rest))) : Go p e below s cm sm Q T (mkF m pc Ls St) := by
  subst hp hst
  obtain ⟨cq, q1, q2⟩ := E.cell
  obtain ⟨v, _, ⟨T1, L1, k1, n1⟩, -, X1, ⟨Lc, hQ, l1, y1, z1⟩, st⟩ := X.privateBack hx (y := y) hown (mvT hZ w1) (mvT hZ w2) (mvT hZ ws) (Cond.privateMethod_at (mvP hZ wp (args := #[]))) (mvT hZ w4) hy (C.back (W := W) hZ w4 w3 hf hl) (g := mkF m pc Ls (argsL.reverse ++ .ref a :: rest)) rfl hsz (Steps.refl _) (a := a) (by rw [eT]; exact q1) q2 (argsL := argsL) (rest := rest) hlen rfl (by show 2 * 0 + _ ≤ _; rw [Nat.mul_zero, Nat.zero_add]; exact hW) hd (fun _ _ => ⟨rfl, eT, hc, hs⟩)
  dsimp only [Pt.U, Pt.locs, Pt.cells, Pt.slots] at X1 l1 y1 z1 st hQ
  subst l1 y1 z1
  exact Go.st (fun t q => st.trans q) (kk _ _ _ X1 hQ)
theorem w_ifnullNo (X : Stand p l e R s m args below meth c T locs cells slots) (hx : p.tables.exec = Jvm.exec) {o : Int} {b : Addr} (hd : decode c.code pc = .ok (.ifnull o, 3)) (hp : pc + 3 = pc') (kk : Go p e below s cm sm Q T (mkF m pc' Ls St)) : Go p e below s cm sm Q T (mkF m pc Ls (.ref b :: St)) := by
  subst hp
  exact Go.st (fun t q => XS.ifnullNo (g := mkF m pc Ls (.ref b :: St)) X.here hx rfl hd rfl q) kk
theorem own_len {n k : Nat} (h : n < 2147483648) (hk : k < 2147483648) (hc : ¬ n.toInt32 < k.toInt32) : k ≤ n := by
  rw [Int32.lt_iff_toInt_lt, len_toInt h, len_toInt hk] at hc
  omega
theorem own_len' {n k : Nat} (h : n < 2147483648) (hk : k < 2147483648) (hc : n.toInt32 < k.toInt32) : n < k := by
  rw [Int32.lt_iff_toInt_lt, len_toInt h, len_toInt hk] at hc
  omega
theorem own_getD {α : Type} {vs : List α} {j : Nat} {d : α} (h : j < vs.length) : vs[j]? = some (vs.getD j d) := by simp [h]
theorem own_nar0 : nar .boolean 0 = 0 := by decide
theorem own_nar1 : nar .boolean 1 = 1 := by decide
theorem w_up {c' s' : Nat} (X : Stand p l e R s m args below meth c T locs cells slots) (h1 : cells ≤ c') (h2 : slots ≤ s') : Stand p l e R s m args below meth c T locs c' s' :=
  ⟨X.admits, X.cas, X.clock, X.frames, X.room, X.hears, X.method, X.code, X.here, X.tail, X.warmed, X.limits, X.bytes, X.same.mono h1 h2⟩
end OwnKit
theorem pd_0 : parseMethodDescriptor "([JI)I" = some ⟨[(.array .long), .int], some .int⟩ := by decide +kernel
theorem d1_0 : decode prog_54_method_4_code 0 = .ok (.iload_n 1, 1) := by decide +kernel
theorem d1_1 : decode prog_54_method_4_code 1 = .ok (.istore_n 2, 1) := by decide +kernel
theorem d1_2 : decode prog_54_method_4_code 2 = .ok (.iload_n 2, 1) := by decide +kernel
theorem d1_3 : decode prog_54_method_4_code 3 = .ok (.ifCond .le 19, 3) := by decide +kernel
theorem d1_6 : decode prog_54_method_4_code 6 = .ok (.aload_n 0, 1) := by decide +kernel
theorem d1_7 : decode prog_54_method_4_code 7 = .ok (.iload_n 2, 1) := by decide +kernel
theorem d1_8 : decode prog_54_method_4_code 8 = .ok (.iconst 1, 1) := by decide +kernel
theorem d1_9 : decode prog_54_method_4_code 9 = .ok (.isub, 1) := by decide +kernel
theorem d1_10 : decode prog_54_method_4_code 10 = .ok (.laload, 1) := by decide +kernel
theorem d1_11 : decode prog_54_method_4_code 11 = .ok (.lconst 0, 1) := by decide +kernel
theorem d1_12 : decode prog_54_method_4_code 12 = .ok (.lcmp, 1) := by decide +kernel
theorem d1_13 : decode prog_54_method_4_code 13 = .ok (.ifCond .ne 9, 3) := by decide +kernel
theorem d1_16 : decode prog_54_method_4_code 16 = .ok (.iinc 2 (-1), 3) := by decide +kernel
theorem d1_19 : decode prog_54_method_4_code 19 = .ok (.goto (-17), 3) := by decide +kernel
theorem d1_22 : decode prog_54_method_4_code 22 = .ok (.iload_n 2, 1) := by decide +kernel
theorem d1_23 : decode prog_54_method_4_code 23 = .ok (.ireturn, 1) := by decide +kernel
theorem own_m (x m : Int32) {k : Nat} (hk : k < 32) (hm : m.toBitVec.toNat = 2 ^ k - 1) : 0 ≤ (x &&& m).toInt ∧ (x &&& m).toInt < 2 ^ k := by
  rw [Jvm.Kit.i32_mask x m hk hm]
  exact ⟨Int.emod_nonneg _ (by have : (0 : Int) < 2 ^ k := Int.pow_pos (by decide); omega), Int.emod_lt_of_pos _ (Int.pow_pos (by decide))⟩
theorem own_one : (1 : Int32).toInt = 1 := by decide
theorem own_zero : (0 : Int32).toInt = 0 := by decide
theorem own_toInt {x y : Int32} (h : x.toInt = y.toInt) : x = y := Int32.toInt_inj.mp h
theorem own_and1 (x : Int32) : x &&& 1 = 0 ∨ x &&& 1 = 1 := and_one x
theorem own_and3 (x : Int32) : x &&& 3 = 0 ∨ x &&& 3 = 1 ∨ x &&& 3 = 2 ∨ x &&& 3 = 3 := by
  obtain ⟨h1, h2⟩ := own_m x 3 (k := 2) (by decide) (by decide)
  have e1 : (1 : Int32).toInt = 1 := by decide
  have e2 : (2 : Int32).toInt = 2 := by decide
  have e3 : (3 : Int32).toInt = 3 := by decide
  have e0 : (0 : Int32).toInt = 0 := by decide
  have : (x &&& 3).toInt = 0 ∨ (x &&& 3).toInt = 1 ∨ (x &&& 3).toInt = 2 ∨ (x &&& 3).toInt = 3 := by omega
  rcases this with h | h | h | h
  · exact Or.inl (own_toInt (h.trans e0.symm))
  · exact Or.inr (Or.inl (own_toInt (h.trans e1.symm)))
  · exact Or.inr (Or.inr (Or.inl (own_toInt (h.trans e2.symm))))
  · exact Or.inr (Or.inr (Or.inr (own_toInt (h.trans e3.symm))))
theorem own_b01 {c : Prop} [Decidable c] {v : Int32} (h : v = if c then 0 else 1) : v = 0 ∨ v = 1 := by subst h; split <;> simp
theorem own_b10 {c : Prop} [Decidable c] {v : Int32} (h : v = if c then 1 else 0) : v = 0 ∨ v = 1 := by subst h; split <;> simp
def own_used (vs : List Int64) : Nat → Nat
  | 0 => 0
  | n + 1 => if vs.getD n 0 = 0 then own_used vs n else n + 1
theorem own_i {n : Nat} (h : n < 2147483648) : (n.toInt32).toInt = n := len_toInt h
theorem own_pos {n : Nat} (h : n + 1 < 2147483648) : (0 : Int32) < (n + 1).toInt32 := by
  rw [Int32.lt_iff_toInt_lt, own_i h, own_zero]; omega
theorem own_pred {n : Nat} (h : n + 1 < 2147483648) : (n + 1).toInt32 - 1 = n.toInt32 := by
  apply own_toInt
  rw [Jvm.Kit.i32_sub (by rw [own_i h, own_one]; omega) (by rw [own_i h, own_one]; omega), own_i h, own_i (by omega), own_one]
  omega
theorem own_pred' {n : Nat} (h : n + 1 < 2147483648) : (n + 1).toInt32 + (-1) = n.toInt32 := by
  have e : (-1 : Int32).toInt = -1 := by decide
  apply own_toInt
  rw [Jvm.Kit.i32_add (by rw [own_i h, e]; omega) (by rw [own_i h, e]; omega), own_i h, own_i (by omega), e]
  omega
theorem own_nat {n : Nat} (h : n < 2147483648) : n.toInt32.toNatClampNeg = n := by
  show n.toInt32.toInt.toNat = n
  rw [own_i h]; rfl
theorem own_nneg {n : Nat} (h : n < 2147483648) : ¬ n.toInt32 < 0 := by
  rw [Int32.lt_iff_toInt_lt, own_i h, own_zero]; omega
set_option maxRecDepth 65536 in
set_option maxHeartbeats 40000000 in
theorem lp1 {p : Program} {l : Launch} {e : Env} {s : State} {m : MethodId} {args : Array Value} {below : List Frame} {meth : Method} {c : Code} {T : State} {locs : List Loc} {Z : State} {a0 : Array Value} {h0 : Heap} {n0 : Nat} {ar : Addr} {vs : List Int64} (X : Stand p l e ({ frames := 0, cells := 0, slots := 0, locals := 0 } : Room) s m args below meth c T locs 0 0) (hx : p.tables.exec = Jvm.exec) (hZ : Z.Warmed39 s.vm) (hw : ∀ d ∈ tables_1, d.before a0 Z = true) (hby : c.code = prog_54_method_4_code) (hml : c.maxLocals = 3) (hown : s.vm.findClass "com/example/curves_to_bounds/curvestobounds/Words" = some m.cls) (hret : meth.sig.returnType = (some .int)) (hlk : meth.locks = false) (e0 : T.heap = h0) (N0 : Fr n0 locs) (V_ar : AJ Z h0 ar vs) (x1 : Int32) : ∀ n : Nat, n ≤ vs.length →
    Go p e below s 0 0 (QP (some (.int (own_used vs n).toInt32)) h0 n0) T (mkF m 2 #[.val (.ref ar), .val (.int x1), .val (.int n.toInt32)] [])
  | 0, _ => by
    rw [own_used]
    refine w_iloadN X hx (hb hby d1_2) (pc' := 3) rfl rfl ?_
    have hf3 : ¬ ((0 : Int32) < (0 : Nat).toInt32) := by decide
    refine w_if_le X hx (hb hby d1_3) (pf := 6) (pt := 22) rfl (by decide) (by decide) (fun hc3 => ?_) (fun hc => absurd hc hf3)
    refine w_iloadN X hx (hb hby d1_22) (pc' := 23) rfl rfl ?_
    exact w_retI X hx hret hlk (hb hby d1_23) (by decide) (by decide) ⟨rfl, N0, e0⟩
  | n + 1, hn => by
    have hl := V_ar.len
    have ih := lp1 X hx hZ hw hby hml hown hret hlk e0 N0 V_ar x1 n (by omega)
    rw [own_used]
    refine w_iloadN X hx (hb hby d1_2) (pc' := 3) rfl rfl ?_
    have hf3 : (0 : Int32) < (n + 1).toInt32 := own_pos (by omega)
    refine w_if_le X hx (hb hby d1_3) (pf := 6) (pt := 22) rfl (by decide) (by decide) (fun hc => absurd hf3 hc) (fun hc3 => ?_)
    refine w_aloadN X hx (hb hby d1_6) (pc' := 7) rfl rfl rfl ?_
    refine w_iloadN X hx (hb hby d1_7) (pc' := 8) rfl rfl ?_
    refine w_iconst (v := 1) X hx (hb hby d1_8) (pc' := 9) rfl rfl ?_
    refine w_isub X hx (hb hby d1_9) (pc' := 10) rfl ?_
    refine w_laload X hx hZ e0 V_ar (v := (vs.getD n 0)) (by rw [own_pred (by omega)]; exact own_nneg (by omega)) (by rw [own_pred (by omega), own_nat (by omega)]; exact own_getD (by omega)) (hb hby d1_10) (pc' := 11) rfl ?_
    refine w_lconst (v := 0) X hx (hb hby d1_11) (pc' := 12) rfl rfl ?_
    refine w_lcmp X hx (hb hby d1_12) (pc' := 13) rfl ?_
    refine w_ifL_ne X hx (hb hby d1_13) (pf := 16) (pt := 22) rfl (by decide) (by decide) (fun hc13 => ?_) (fun hc13 => ?_)
    · rw [if_neg hc13]
      refine w_iloadN X hx (hb hby d1_22) (pc' := 23) rfl rfl ?_
      exact w_retI X hx hret hlk (hb hby d1_23) (by decide) (by decide) ⟨rfl, N0, e0⟩
    · rw [if_pos hc13]
      refine w_iinc (Ls' := #[.val (.ref ar), .val (.int x1), .val (.int ((n + 1).toInt32 + (-1 : Int32)))]) (w := (-1 : Int32)) X hx (hb hby d1_16) (pc' := 19) rfl rfl rfl rfl ?_
      refine w_goto X hx (hb hby d1_19) (pc' := 2) (by decide) (by decide) ?_
      rw [own_pred' (by omega)]
      exact ih
theorem ef_1 (m : MethodId) (ar : Addr) (x1 : Int32) : entryFrame m #[(.ref ar), (.int x1)] 3 = mkF m 0 #[.val (.ref ar), .val (.int x1), .unset] [] := by first | (simp [entryFrame, mkF, argsToLocals, Value.category]; done) | rfl
set_option maxRecDepth 65536 in
set_option maxHeartbeats 40000000 in
theorem rm1 (l : Launch) (Z : State) (a0 : Array Value) (hw : ∀ d ∈ tables_1, d.before a0 Z = true) (ar : Addr) (x1 : Int32) (h0 : Heap) (n0 : Nat) (vs : List Int64) (n : Nat) (V_ar : AJ Z h0 ar vs) (hn : n ≤ vs.length) (hx1 : x1 = n.toInt32) :
    Con l Z (⟨"com/example/curves_to_bounds/curvestobounds/Words", "used", "([JI)I"⟩ : MethodName) prog_54_method_4_code 3 (some .int) ({ frames := 0, cells := 0, slots := 0, locals := 0 } : Room) #[(.ref ar), (.int x1)] h0 (QP (some (.int (own_used vs n).toInt32)) h0 n0) := by
  refine Con.of (plainFor_of_name (by first | (simp [plainName, overriddenIn]; done) | decide +kernel)) ?_
  intro p e s m below meth c T X hx hZ hby hml hown hnm hret hlk e0
  rw [ef_1]
  refine w_iloadN X hx (hb hby d1_0) (pc' := 1) rfl rfl ?_
  refine w_istoreN (Ls' := #[.val (.ref ar), .val (.int x1), .val (.int x1)]) X hx (hb hby d1_1) (pc' := 2) rfl rfl ?_
  subst hx1
  exact lp1 X hx hZ hw hby hml hown hret hlk e0 (Fr.nil n0) V_ar _ n hn
theorem own_five {x len : Int32} (h : len = (x &&& 2147483647) % 5) : len = 0 ∨ len = 1 ∨ len = 2 ∨ len = 3 ∨ len = 4 := by
  have h0 := (own_m x 2147483647 (k := 31) (by decide) (by decide)).1
  have e5 : (5 : Int32).toInt = 5 := by decide
  have e : len.toInt = (x &&& 2147483647).toInt % 5 := by rw [h, Jvm.Kit.i32_rem_nonneg h0, e5]
  have e2 : (2 : Int32).toInt = 2 := by decide
  have e3 : (3 : Int32).toInt = 3 := by decide
  have e4 : (4 : Int32).toInt = 4 := by decide
  simp only [← Int32.toInt_inj, own_zero, own_one, e2, e3, e4]
  omega
theorem own_law {a b c d : Int64} :
    (own_used [a, b, c, d] 0).toInt32 = 0 ∧ (own_used [a, b, c, d] 1).toInt32 = (if a = 0 then (0 : Int32) else 1) ∧ (own_used [a, b, c, d] 2).toInt32 = (if b = 0 then (if a = 0 then (0 : Int32) else 1) else 2) ∧ (own_used [a, b, c, d] 3).toInt32 = (if c = 0 then (if b = 0 then (if a = 0 then (0 : Int32) else 1) else 2) else 3) ∧
      (own_used [a, b, c, d] 4).toInt32 = (if d = 0 then (if c = 0 then (if b = 0 then (if a = 0 then (0 : Int32) else 1) else 2) else 3) else 4) := by
  have h1 : own_used [a, b, c, d] 1 = if a = 0 then 0 else 1 := rfl
  have h2 : own_used [a, b, c, d] 2 = if b = 0 then (own_used [a, b, c, d] 1) else 2 := rfl
  have h3 : own_used [a, b, c, d] 3 = if c = 0 then (own_used [a, b, c, d] 2) else 3 := rfl
  have h4 : own_used [a, b, c, d] 4 = if d = 0 then (own_used [a, b, c, d] 3) else 4 := rfl
  have g1 : (own_used [a, b, c, d] 1).toInt32 = (if a = 0 then (0 : Int32) else 1) := by rw [h1]; split <;> rfl
  have g2 : (own_used [a, b, c, d] 2).toInt32 = (if b = 0 then (if a = 0 then (0 : Int32) else 1) else 2) := by rw [h2, ← g1]; split <;> rfl
  have g3 : (own_used [a, b, c, d] 3).toInt32 = (if c = 0 then (if b = 0 then (if a = 0 then (0 : Int32) else 1) else 2) else 3) := by rw [h3, ← g2]; split <;> rfl
  exact ⟨rfl, g1, g2, g3, by rw [h4, ← g3]; split <;> rfl⟩
theorem ef_0 (m : MethodId) (x0 : Int64) (x1 : Int64) (x2 : Int64) (x3 : Int64) (x4 : Int32) (x5 : Int32) : entryFrame m #[(.long x0), (.long x1), (.long x2), (.long x3), (.int x4), (.int x5)] maxLocals = mkF m 0 #[.val (.long x0), .second, .val (.long x1), .second, .val (.long x2), .second, .val (.long x3), .second, .val (.int x4), .val (.int x5), .unset, .unset, .unset, .unset, .unset] [] := by first | (simp [entryFrame, mkF, argsToLocals, Value.category, maxLocals]; done) | rfl
set_option maxRecDepth 65536 in
set_option maxHeartbeats 40000000 in
theorem rm0 (l : Launch) (Z : State) (a0 : Array Value) (hw : ∀ d ∈ tables_1, d.before a0 Z = true) (x0 : Int64) (x1 : Int64) (x2 : Int64) (x3 : Int64) (x4 : Int32) (x5 : Int32) (h0 : Heap) (n0 : Nat) (Z0 : n0 ≤ h0.size) :
    Con l Z x code maxLocals ret room_1 #[(.long x0), (.long x1), (.long x2), (.long x3), (.int x4), (.int x5)] h0 (QL (some (.int 1)) n0) := by
  refine Con.of (plainFor_of_name (by first | (simp [plainName, overriddenIn]; done) | decide +kernel)) ?_
  intro p e s m below meth c T X hx hZ hby hml hown hnm hret hlk e0
  rw [ef_0]
  have N0 := Fr.nil n0
  show Go p e below s room_1.cells room_1.slots (QL (some (.int 1)) n0) T (mkF m 0 #[.val (.long x0), .second, .val (.long x1), .second, .val (.long x2), .second, .val (.long x3), .second, .val (.int x4), .val (.int x5), .unset, .unset, .unset, .unset, .unset] [])
  refine w_iconst (v := 4) X hx (hb hby at_0) (pc' := 1) rfl rfl ?_
  refine w_newJ X hx hZ (cap := 4) e0 (hw _ (List.mem_of_getElem? (i := 0) rfl)) (by decide) (by decide) (by decide) (by decide) (by decide) (hb hby at_1) (pc' := 3) rfl (fun T1 h1 b1 X1 e1 E1 q1 V1 => ?_)
  have g_b1 : n0 ≤ b1 := by rw [q1]; exact Z0
  have V1 : AJ Z h1 b1 [(0 : Int64), (0 : Int64), (0 : Int64), (0 : Int64)] := V1
  have zn1 : n0 ≤ h1.size := Nat.le_trans Z0 E1.1
  refine w_astore (Ls' := #[.val (.long x0), .second, .val (.long x1), .second, .val (.long x2), .second, .val (.long x3), .second, .val (.int x4), .val (.int x5), .val (.ref b1), .unset, .unset, .unset, .unset]) X1 hx (hb hby at_3) (pc' := 5) rfl rfl rfl ?_
  refine w_aload X1 hx (hb hby at_5) (pc' := 7) rfl rfl rfl ?_
  refine w_iconst (v := 0) X1 hx (hb hby at_7) (pc' := 8) rfl rfl ?_
  refine w_iload X1 hx (hb hby at_8) (pc' := 10) rfl rfl ?_
  refine w_iconst (v := 1) X1 hx (hb hby at_10) (pc' := 11) rfl rfl ?_
  refine w_iand X1 hx (hb hby at_11) (pc' := 12) rfl ?_
  have J20_3 : ∀ (v2 : Int64), v2 = (if (x5 &&& (1 : Int32)) = (0 : Int32) then x0 else (0 : Int64)) → Go p e below s room_1.cells room_1.slots (QL (some (.int 1)) n0) T1 (mkF m 20 #[.val (.long x0), .second, .val (.long x1), .second, .val (.long x2), .second, .val (.long x3), .second, .val (.int x4), .val (.int x5), .val (.ref b1), .unset, .unset, .unset, .unset] [(.long v2), (.int (0 : Int32)), (.ref b1)]) := by
    intro v2 hv2
    refine w_lastore X1 hx hZ e1 V1 (by decide) (by show _ < 4; decide) (hb hby at_20) (pc' := 21) rfl (fun T4 h4 X4 e4 W4 V4 => ?_)
    have V4 : AJ Z h4 b1 [v2, (0 : Int64), (0 : Int64), (0 : Int64)] := V4
    have N4 := Fr.snoc X4 N0 g_b1
    have zn4 : n0 ≤ h4.size := by rw [W4.size]; exact zn1
    refine w_aload X4 hx (hb hby at_21) (pc' := 23) rfl rfl rfl ?_
    refine w_iconst (v := 1) X4 hx (hb hby at_23) (pc' := 24) rfl rfl ?_
    refine w_iload X4 hx (hb hby at_24) (pc' := 26) rfl rfl ?_
    refine w_iconst (v := 2) X4 hx (hb hby at_26) (pc' := 27) rfl rfl ?_
    refine w_iand X4 hx (hb hby at_27) (pc' := 28) rfl ?_
    have J36_6 : ∀ (v5 : Int64), v5 = (if (x5 &&& (2 : Int32)) = (0 : Int32) then x1 else (0 : Int64)) → Go p e below s room_1.cells room_1.slots (QL (some (.int 1)) n0) T4 (mkF m 36 #[.val (.long x0), .second, .val (.long x1), .second, .val (.long x2), .second, .val (.long x3), .second, .val (.int x4), .val (.int x5), .val (.ref b1), .unset, .unset, .unset, .unset] [(.long v5), (.int (1 : Int32)), (.ref b1)]) := by
      intro v5 hv5
      refine w_lastore X4 hx hZ e4 V4 (by decide) (by show _ < 4; decide) (hb hby at_36) (pc' := 37) rfl (fun T7 h7 X7 e7 W7 V7 => ?_)
      have V7 : AJ Z h7 b1 [v2, v5, (0 : Int64), (0 : Int64)] := V7
      have N7 := Fr.snoc X7 N4 g_b1
      have zn7 : n0 ≤ h7.size := by rw [W7.size]; exact zn4
      refine w_aload X7 hx (hb hby at_37) (pc' := 39) rfl rfl rfl ?_
      refine w_iconst (v := 2) X7 hx (hb hby at_39) (pc' := 40) rfl rfl ?_
      refine w_iload X7 hx (hb hby at_40) (pc' := 42) rfl rfl ?_
      refine w_iconst (v := 4) X7 hx (hb hby at_42) (pc' := 43) rfl rfl ?_
      refine w_iand X7 hx (hb hby at_43) (pc' := 44) rfl ?_
      have J53_9 : ∀ (v8 : Int64), v8 = (if (x5 &&& (4 : Int32)) = (0 : Int32) then x2 else (0 : Int64)) → Go p e below s room_1.cells room_1.slots (QL (some (.int 1)) n0) T7 (mkF m 53 #[.val (.long x0), .second, .val (.long x1), .second, .val (.long x2), .second, .val (.long x3), .second, .val (.int x4), .val (.int x5), .val (.ref b1), .unset, .unset, .unset, .unset] [(.long v8), (.int (2 : Int32)), (.ref b1)]) := by
        intro v8 hv8
        refine w_lastore X7 hx hZ e7 V7 (by decide) (by show _ < 4; decide) (hb hby at_53) (pc' := 54) rfl (fun T10 h10 X10 e10 W10 V10 => ?_)
        have V10 : AJ Z h10 b1 [v2, v5, v8, (0 : Int64)] := V10
        have N10 := Fr.snoc X10 N7 g_b1
        have zn10 : n0 ≤ h10.size := by rw [W10.size]; exact zn7
        refine w_aload X10 hx (hb hby at_54) (pc' := 56) rfl rfl rfl ?_
        refine w_iconst (v := 3) X10 hx (hb hby at_56) (pc' := 57) rfl rfl ?_
        refine w_iload X10 hx (hb hby at_57) (pc' := 59) rfl rfl ?_
        refine w_bipush (v := 8) X10 hx (hb hby at_59) (pc' := 61) rfl rfl ?_
        refine w_iand X10 hx (hb hby at_61) (pc' := 62) rfl ?_
        have J71_12 : ∀ (v11 : Int64), v11 = (if (x5 &&& (8 : Int32)) = (0 : Int32) then x3 else (0 : Int64)) → Go p e below s room_1.cells room_1.slots (QL (some (.int 1)) n0) T10 (mkF m 71 #[.val (.long x0), .second, .val (.long x1), .second, .val (.long x2), .second, .val (.long x3), .second, .val (.int x4), .val (.int x5), .val (.ref b1), .unset, .unset, .unset, .unset] [(.long v11), (.int (3 : Int32)), (.ref b1)]) := by
          intro v11 hv11
          refine w_lastore X10 hx hZ e10 V10 (by decide) (by show _ < 4; decide) (hb hby at_71) (pc' := 72) rfl (fun T13 h13 X13 e13 W13 V13 => ?_)
          have V13 : AJ Z h13 b1 [v2, v5, v8, v11] := V13
          have N13 := Fr.snoc X13 N10 g_b1
          have zn13 : n0 ≤ h13.size := by rw [W13.size]; exact zn10
          refine w_iload X13 hx (hb hby at_72) (pc' := 74) rfl rfl ?_
          refine w_ldc X13 hx hZ hown (hw _ (List.mem_of_getElem? (i := 1) rfl)) (hb hby at_74) (pc' := 76) rfl ?_
          refine w_iand X13 hx (hb hby at_76) (pc' := 77) rfl ?_
          refine w_iconst (v := 5) X13 hx (hb hby at_77) (pc' := 78) rfl rfl ?_
          refine w_irem X13 hx (hb hby at_78) (pc' := 79) rfl (by decide) ?_
          refine w_istore (Ls' := #[.val (.long x0), .second, .val (.long x1), .second, .val (.long x2), .second, .val (.long x3), .second, .val (.int x4), .val (.int x5), .val (.ref b1), .val (.int ((x4 &&& (2147483647 : Int32)) % (5 : Int32))), .unset, .unset, .unset]) X13 hx (hb hby at_79) (pc' := 81) rfl rfl ?_
          obtain ⟨len, hlen⟩ : ∃ z : Int32, z = ((x4 &&& (2147483647 : Int32)) % (5 : Int32)) := ⟨_, rfl⟩
          rw [← hlen]
          rcases (own_five hlen) with rfl | rfl | rfl | rfl | rfl
          · refine w_iload X13 hx (hb hby at_81) (pc' := 83) rfl rfl ?_
            refine w_iconst (v := 4) X13 hx (hb hby at_83) (pc' := 84) rfl rfl ?_
            have hf84 : (0 : Int32) < (4 : Int32) := (by decide)
            refine w_icmp_lt X13 hx (hb hby at_84) (pf := 87) (pt := 102) rfl (by decide) (by decide) (fun hc84 => ?_) (fun hc => absurd hf84 hc)
            refine w_iload X13 hx (hb hby at_102) (pc' := 104) rfl rfl ?_
            refine w_iconst (v := 3) X13 hx (hb hby at_104) (pc' := 105) rfl rfl ?_
            have hf105 : (0 : Int32) < (3 : Int32) := (by decide)
            refine w_icmp_lt X13 hx (hb hby at_105) (pf := 108) (pt := 123) rfl (by decide) (by decide) (fun hc105 => ?_) (fun hc => absurd hf105 hc)
            refine w_iload X13 hx (hb hby at_123) (pc' := 125) rfl rfl ?_
            refine w_iconst (v := 2) X13 hx (hb hby at_125) (pc' := 126) rfl rfl ?_
            have hf126 : (0 : Int32) < (2 : Int32) := (by decide)
            refine w_icmp_lt X13 hx (hb hby at_126) (pf := 129) (pt := 144) rfl (by decide) (by decide) (fun hc126 => ?_) (fun hc => absurd hf126 hc)
            refine w_iload X13 hx (hb hby at_144) (pc' := 146) rfl rfl ?_
            refine w_iconst (v := 1) X13 hx (hb hby at_146) (pc' := 147) rfl rfl ?_
            have hf147 : (0 : Int32) < (1 : Int32) := (by decide)
            refine w_icmp_lt X13 hx (hb hby at_147) (pf := 150) (pt := 165) rfl (by decide) (by decide) (fun hc147 => ?_) (fun hc => absurd hf147 hc)
            refine w_iconst (v := 0) X13 hx (hb hby at_165) (pc' := 166) rfl rfl ?_
            refine w_istore (Ls' := #[.val (.long x0), .second, .val (.long x1), .second, .val (.long x2), .second, .val (.long x3), .second, .val (.int x4), .val (.int x5), .val (.ref b1), .val (.int (0 : Int32)), .val (.int (0 : Int32)), .unset, .unset]) X13 hx (hb hby at_166) (pc' := 168) rfl rfl ?_
            refine w_aload X13 hx (hb hby at_168) (pc' := 170) rfl rfl rfl ?_
            refine w_iload X13 hx (hb hby at_170) (pc' := 172) rfl rfl ?_
            refine w_callS (argsL := [(.ref b1), (.int (0 : Int32))]) (rest := []) X13 hx hZ hown e13 (rm1 l Z a0 hw b1 (0 : Int32) h13 n0 [v2, v5, v8, v11] 0 V13 (by show 0 ≤ 4; decide) rfl) (hw _ (List.mem_of_getElem? (i := 2) rfl)) (hw _ (List.mem_of_getElem? (i := 3) rfl)) (hw _ (List.mem_of_getElem? (i := 4) rfl)) (hw _ (List.mem_of_getElem? (i := 5) rfl)) (by decide) (by decide) (W := 0) (by decide) (by decide) (by decide) (by rw [hml]; rfl) (lenOf pd_0 rfl) (Nat.le_refl _) rfl (hb hby at_172) (pc' := 175) rfl (fun T14 L14 v14 X14 hQ14 => ?_)
            obtain ⟨rfl, N14q, e14⟩ := hQ14
            have N14 := Fr.app N13 N14q
            have X14 : Stand p l e room_1 s m _ below meth c T14 _ 1 4 := X14
            show Go p e below s room_1.cells room_1.slots (QL (some (.int 1)) n0) T14 (mkF m 175 #[.val (.long x0), .second, .val (.long x1), .second, .val (.long x2), .second, .val (.long x3), .second, .val (.int x4), .val (.int x5), .val (.ref b1), .val (.int (0 : Int32)), .val (.int (0 : Int32)), .unset, .unset] [(.int (own_used [v2, v5, v8, v11] 0).toInt32)])
            refine w_istore (Ls' := #[.val (.long x0), .second, .val (.long x1), .second, .val (.long x2), .second, .val (.long x3), .second, .val (.int x4), .val (.int x5), .val (.ref b1), .val (.int (0 : Int32)), .val (.int (0 : Int32)), .val (.int (own_used [v2, v5, v8, v11] 0).toInt32), .unset]) X14 hx (hb hby at_175) (pc' := 177) rfl rfl ?_
            refine w_aload X14 hx (hb hby at_177) (pc' := 179) rfl rfl rfl ?_
            refine w_iconst (v := 0) X14 hx (hb hby at_179) (pc' := 180) rfl rfl ?_
            refine w_laload X14 hx hZ e14 V13 (v := v2) (by decide) rfl (hb hby at_180) (pc' := 181) rfl ?_
            refine w_iload X14 hx (hb hby at_181) (pc' := 183) rfl rfl ?_
            refine w_iconst (v := 1) X14 hx (hb hby at_183) (pc' := 184) rfl rfl ?_
            refine w_iand X14 hx (hb hby at_184) (pc' := 185) rfl ?_
            have J193_16 : ∀ (v15 : Int64), v15 = (if (x5 &&& (1 : Int32)) = (0 : Int32) then x0 else (0 : Int64)) → Go p e below s room_1.cells room_1.slots (QL (some (.int 1)) n0) T14 (mkF m 193 #[.val (.long x0), .second, .val (.long x1), .second, .val (.long x2), .second, .val (.long x3), .second, .val (.int x4), .val (.int x5), .val (.ref b1), .val (.int (0 : Int32)), .val (.int (0 : Int32)), .val (.int (own_used [v2, v5, v8, v11] 0).toInt32), .unset] [(.long v15), (.long v2)]) := by
              intro v15 hv15
              refine w_lcmp X14 hx (hb hby at_193) (pc' := 194) rfl ?_
              have hf194 : v2 = v15 := hv2.trans hv15.symm
              refine w_ifL_ne X14 hx (hb hby at_194) (pf := 197) (pt := 264) rfl (by decide) (by decide) (fun hc => absurd hf194 hc) (fun hc194 => ?_)
              refine w_aload X14 hx (hb hby at_197) (pc' := 199) rfl rfl rfl ?_
              refine w_iconst (v := 1) X14 hx (hb hby at_199) (pc' := 200) rfl rfl ?_
              refine w_laload X14 hx hZ e14 V13 (v := v5) (by decide) rfl (hb hby at_200) (pc' := 201) rfl ?_
              refine w_iload X14 hx (hb hby at_201) (pc' := 203) rfl rfl ?_
              refine w_iconst (v := 2) X14 hx (hb hby at_203) (pc' := 204) rfl rfl ?_
              refine w_iand X14 hx (hb hby at_204) (pc' := 205) rfl ?_
              have J213_18 : ∀ (v17 : Int64), v17 = (if (x5 &&& (2 : Int32)) = (0 : Int32) then x1 else (0 : Int64)) → Go p e below s room_1.cells room_1.slots (QL (some (.int 1)) n0) T14 (mkF m 213 #[.val (.long x0), .second, .val (.long x1), .second, .val (.long x2), .second, .val (.long x3), .second, .val (.int x4), .val (.int x5), .val (.ref b1), .val (.int (0 : Int32)), .val (.int (0 : Int32)), .val (.int (own_used [v2, v5, v8, v11] 0).toInt32), .unset] [(.long v17), (.long v5)]) := by
                intro v17 hv17
                refine w_lcmp X14 hx (hb hby at_213) (pc' := 214) rfl ?_
                have hf214 : v5 = v17 := hv5.trans hv17.symm
                refine w_ifL_ne X14 hx (hb hby at_214) (pf := 217) (pt := 264) rfl (by decide) (by decide) (fun hc => absurd hf214 hc) (fun hc214 => ?_)
                refine w_aload X14 hx (hb hby at_217) (pc' := 219) rfl rfl rfl ?_
                refine w_iconst (v := 2) X14 hx (hb hby at_219) (pc' := 220) rfl rfl ?_
                refine w_laload X14 hx hZ e14 V13 (v := v8) (by decide) rfl (hb hby at_220) (pc' := 221) rfl ?_
                refine w_iload X14 hx (hb hby at_221) (pc' := 223) rfl rfl ?_
                refine w_iconst (v := 4) X14 hx (hb hby at_223) (pc' := 224) rfl rfl ?_
                refine w_iand X14 hx (hb hby at_224) (pc' := 225) rfl ?_
                have J234_20 : ∀ (v19 : Int64), v19 = (if (x5 &&& (4 : Int32)) = (0 : Int32) then x2 else (0 : Int64)) → Go p e below s room_1.cells room_1.slots (QL (some (.int 1)) n0) T14 (mkF m 234 #[.val (.long x0), .second, .val (.long x1), .second, .val (.long x2), .second, .val (.long x3), .second, .val (.int x4), .val (.int x5), .val (.ref b1), .val (.int (0 : Int32)), .val (.int (0 : Int32)), .val (.int (own_used [v2, v5, v8, v11] 0).toInt32), .unset] [(.long v19), (.long v8)]) := by
                  intro v19 hv19
                  refine w_lcmp X14 hx (hb hby at_234) (pc' := 235) rfl ?_
                  have hf235 : v8 = v19 := hv8.trans hv19.symm
                  refine w_ifL_ne X14 hx (hb hby at_235) (pf := 238) (pt := 264) rfl (by decide) (by decide) (fun hc => absurd hf235 hc) (fun hc235 => ?_)
                  refine w_aload X14 hx (hb hby at_238) (pc' := 240) rfl rfl rfl ?_
                  refine w_iconst (v := 3) X14 hx (hb hby at_240) (pc' := 241) rfl rfl ?_
                  refine w_laload X14 hx hZ e14 V13 (v := v11) (by decide) rfl (hb hby at_241) (pc' := 242) rfl ?_
                  refine w_iload X14 hx (hb hby at_242) (pc' := 244) rfl rfl ?_
                  refine w_bipush (v := 8) X14 hx (hb hby at_244) (pc' := 246) rfl rfl ?_
                  refine w_iand X14 hx (hb hby at_246) (pc' := 247) rfl ?_
                  have J256_22 : ∀ (v21 : Int64), v21 = (if (x5 &&& (8 : Int32)) = (0 : Int32) then x3 else (0 : Int64)) → Go p e below s room_1.cells room_1.slots (QL (some (.int 1)) n0) T14 (mkF m 256 #[.val (.long x0), .second, .val (.long x1), .second, .val (.long x2), .second, .val (.long x3), .second, .val (.int x4), .val (.int x5), .val (.ref b1), .val (.int (0 : Int32)), .val (.int (0 : Int32)), .val (.int (own_used [v2, v5, v8, v11] 0).toInt32), .unset] [(.long v21), (.long v11)]) := by
                    intro v21 hv21
                    refine w_lcmp X14 hx (hb hby at_256) (pc' := 257) rfl ?_
                    have hf257 : v11 = v21 := hv11.trans hv21.symm
                    refine w_ifL_ne X14 hx (hb hby at_257) (pf := 260) (pt := 264) rfl (by decide) (by decide) (fun hc => absurd hf257 hc) (fun hc257 => ?_)
                    refine w_iconst (v := 1) X14 hx (hb hby at_260) (pc' := 261) rfl rfl ?_
                    refine w_goto X14 hx (hb hby at_261) (pc' := 265) (by decide) (by decide) ?_
                    refine w_istore (Ls' := #[.val (.long x0), .second, .val (.long x1), .second, .val (.long x2), .second, .val (.long x3), .second, .val (.int x4), .val (.int x5), .val (.ref b1), .val (.int (0 : Int32)), .val (.int (0 : Int32)), .val (.int (own_used [v2, v5, v8, v11] 0).toInt32), .val (.int (1 : Int32))]) X14 hx (hb hby at_265) (pc' := 267) rfl rfl ?_
                    refine w_iload X14 hx (hb hby at_267) (pc' := 269) rfl rfl ?_
                    refine w_iload X14 hx (hb hby at_269) (pc' := 271) rfl rfl ?_
                    have hf271 : (own_used [v2, v5, v8, v11] 0).toInt32 = (0 : Int32) := own_law.1
                    refine w_icmp_ne X14 hx (hb hby at_271) (pf := 274) (pt := 283) rfl (by decide) (by decide) (fun hc => absurd hf271 hc) (fun hc271 => ?_)
                    refine w_iload X14 hx (hb hby at_274) (pc' := 276) rfl rfl ?_
                    have hf276 : ¬ ((1 : Int32) = (0 : Int32)) := (by decide)
                    refine w_if_eq X14 hx (hb hby at_276) (pf := 279) (pt := 283) rfl (by decide) (by decide) (fun hc => absurd hc hf276) (fun hc276 => ?_)
                    refine w_iconst (v := 1) X14 hx (hb hby at_279) (pc' := 280) rfl rfl ?_
                    refine w_goto X14 hx (hb hby at_280) (pc' := 284) (by decide) (by decide) ?_
                    exact w_retZ X14 hx hret hlk (hb hby at_284) (by decide) (by decide) ⟨rfl, N14⟩
                  refine w_if_eq X14 hx (hb hby at_247) (pf := 250) (pt := 254) rfl (by decide) (by decide) (fun hc247 => ?_) (fun hc247 => ?_)
                  · refine w_lload X14 hx (hb hby at_254) (pc' := 256) rfl rfl ?_
                    exact J256_22 (x3) (by rw [if_pos (show (x5 &&& (8 : Int32)) = (0 : Int32) from (by assumption))])
                  · refine w_lconst (v := 0) X14 hx (hb hby at_250) (pc' := 251) rfl rfl ?_
                    refine w_goto X14 hx (hb hby at_251) (pc' := 256) (by decide) (by decide) ?_
                    exact J256_22 ((0 : Int64)) (by rw [if_neg (show ¬ ((x5 &&& (8 : Int32)) = (0 : Int32)) from (by assumption))])
                refine w_if_eq X14 hx (hb hby at_225) (pf := 228) (pt := 232) rfl (by decide) (by decide) (fun hc225 => ?_) (fun hc225 => ?_)
                · refine w_lload X14 hx (hb hby at_232) (pc' := 234) rfl rfl ?_
                  exact J234_20 (x2) (by rw [if_pos (show (x5 &&& (4 : Int32)) = (0 : Int32) from (by assumption))])
                · refine w_lconst (v := 0) X14 hx (hb hby at_228) (pc' := 229) rfl rfl ?_
                  refine w_goto X14 hx (hb hby at_229) (pc' := 234) (by decide) (by decide) ?_
                  exact J234_20 ((0 : Int64)) (by rw [if_neg (show ¬ ((x5 &&& (4 : Int32)) = (0 : Int32)) from (by assumption))])
              refine w_if_eq X14 hx (hb hby at_205) (pf := 208) (pt := 212) rfl (by decide) (by decide) (fun hc205 => ?_) (fun hc205 => ?_)
              · refine w_lloadN X14 hx (hb hby at_212) (pc' := 213) rfl rfl ?_
                exact J213_18 (x1) (by rw [if_pos (show (x5 &&& (2 : Int32)) = (0 : Int32) from (by assumption))])
              · refine w_lconst (v := 0) X14 hx (hb hby at_208) (pc' := 209) rfl rfl ?_
                refine w_goto X14 hx (hb hby at_209) (pc' := 213) (by decide) (by decide) ?_
                exact J213_18 ((0 : Int64)) (by rw [if_neg (show ¬ ((x5 &&& (2 : Int32)) = (0 : Int32)) from (by assumption))])
            refine w_if_eq X14 hx (hb hby at_185) (pf := 188) (pt := 192) rfl (by decide) (by decide) (fun hc185 => ?_) (fun hc185 => ?_)
            · refine w_lloadN X14 hx (hb hby at_192) (pc' := 193) rfl rfl ?_
              exact J193_16 (x0) (by rw [if_pos (show (x5 &&& (1 : Int32)) = (0 : Int32) from (by assumption))])
            · refine w_lconst (v := 0) X14 hx (hb hby at_188) (pc' := 189) rfl rfl ?_
              refine w_goto X14 hx (hb hby at_189) (pc' := 193) (by decide) (by decide) ?_
              exact J193_16 ((0 : Int64)) (by rw [if_neg (show ¬ ((x5 &&& (1 : Int32)) = (0 : Int32)) from (by assumption))])
          · refine w_iload X13 hx (hb hby at_81) (pc' := 83) rfl rfl ?_
            refine w_iconst (v := 4) X13 hx (hb hby at_83) (pc' := 84) rfl rfl ?_
            have hf84 : (1 : Int32) < (4 : Int32) := (by decide)
            refine w_icmp_lt X13 hx (hb hby at_84) (pf := 87) (pt := 102) rfl (by decide) (by decide) (fun hc84 => ?_) (fun hc => absurd hf84 hc)
            refine w_iload X13 hx (hb hby at_102) (pc' := 104) rfl rfl ?_
            refine w_iconst (v := 3) X13 hx (hb hby at_104) (pc' := 105) rfl rfl ?_
            have hf105 : (1 : Int32) < (3 : Int32) := (by decide)
            refine w_icmp_lt X13 hx (hb hby at_105) (pf := 108) (pt := 123) rfl (by decide) (by decide) (fun hc105 => ?_) (fun hc => absurd hf105 hc)
            refine w_iload X13 hx (hb hby at_123) (pc' := 125) rfl rfl ?_
            refine w_iconst (v := 2) X13 hx (hb hby at_125) (pc' := 126) rfl rfl ?_
            have hf126 : (1 : Int32) < (2 : Int32) := (by decide)
            refine w_icmp_lt X13 hx (hb hby at_126) (pf := 129) (pt := 144) rfl (by decide) (by decide) (fun hc126 => ?_) (fun hc => absurd hf126 hc)
            refine w_iload X13 hx (hb hby at_144) (pc' := 146) rfl rfl ?_
            refine w_iconst (v := 1) X13 hx (hb hby at_146) (pc' := 147) rfl rfl ?_
            have hf147 : ¬ ((1 : Int32) < (1 : Int32)) := (by decide)
            refine w_icmp_lt X13 hx (hb hby at_147) (pf := 150) (pt := 165) rfl (by decide) (by decide) (fun hc => absurd hc hf147) (fun hc147 => ?_)
            refine w_aload X13 hx (hb hby at_150) (pc' := 152) rfl rfl rfl ?_
            refine w_iconst (v := 0) X13 hx (hb hby at_152) (pc' := 153) rfl rfl ?_
            refine w_laload X13 hx hZ e13 V13 (v := v2) (by decide) rfl (hb hby at_153) (pc' := 154) rfl ?_
            refine w_lconst (v := 0) X13 hx (hb hby at_154) (pc' := 155) rfl rfl ?_
            refine w_lcmp X13 hx (hb hby at_155) (pc' := 156) rfl ?_
            have J168_24 : ∀ (v23 : Int32), v23 = (if v2 = (0 : Int64) then (0 : Int32) else (1 : Int32)) → Go p e below s room_1.cells room_1.slots (QL (some (.int 1)) n0) T13 (mkF m 168 #[.val (.long x0), .second, .val (.long x1), .second, .val (.long x2), .second, .val (.long x3), .second, .val (.int x4), .val (.int x5), .val (.ref b1), .val (.int (1 : Int32)), .val (.int v23), .unset, .unset] []) := by
              intro v23 hv23
              refine w_aload X13 hx (hb hby at_168) (pc' := 170) rfl rfl rfl ?_
              refine w_iload X13 hx (hb hby at_170) (pc' := 172) rfl rfl ?_
              refine w_callS (argsL := [(.ref b1), (.int (1 : Int32))]) (rest := []) X13 hx hZ hown e13 (rm1 l Z a0 hw b1 (1 : Int32) h13 n0 [v2, v5, v8, v11] 1 V13 (by show 1 ≤ 4; decide) rfl) (hw _ (List.mem_of_getElem? (i := 2) rfl)) (hw _ (List.mem_of_getElem? (i := 3) rfl)) (hw _ (List.mem_of_getElem? (i := 4) rfl)) (hw _ (List.mem_of_getElem? (i := 5) rfl)) (by decide) (by decide) (W := 0) (by decide) (by decide) (by decide) (by rw [hml]; rfl) (lenOf pd_0 rfl) (Nat.le_refl _) rfl (hb hby at_172) (pc' := 175) rfl (fun T25 L25 v25 X25 hQ25 => ?_)
              obtain ⟨rfl, N25q, e25⟩ := hQ25
              have N25 := Fr.app N13 N25q
              have X25 : Stand p l e room_1 s m _ below meth c T25 _ 1 4 := X25
              show Go p e below s room_1.cells room_1.slots (QL (some (.int 1)) n0) T25 (mkF m 175 #[.val (.long x0), .second, .val (.long x1), .second, .val (.long x2), .second, .val (.long x3), .second, .val (.int x4), .val (.int x5), .val (.ref b1), .val (.int (1 : Int32)), .val (.int v23), .unset, .unset] [(.int (own_used [v2, v5, v8, v11] 1).toInt32)])
              refine w_istore (Ls' := #[.val (.long x0), .second, .val (.long x1), .second, .val (.long x2), .second, .val (.long x3), .second, .val (.int x4), .val (.int x5), .val (.ref b1), .val (.int (1 : Int32)), .val (.int v23), .val (.int (own_used [v2, v5, v8, v11] 1).toInt32), .unset]) X25 hx (hb hby at_175) (pc' := 177) rfl rfl ?_
              refine w_aload X25 hx (hb hby at_177) (pc' := 179) rfl rfl rfl ?_
              refine w_iconst (v := 0) X25 hx (hb hby at_179) (pc' := 180) rfl rfl ?_
              refine w_laload X25 hx hZ e25 V13 (v := v2) (by decide) rfl (hb hby at_180) (pc' := 181) rfl ?_
              refine w_iload X25 hx (hb hby at_181) (pc' := 183) rfl rfl ?_
              refine w_iconst (v := 1) X25 hx (hb hby at_183) (pc' := 184) rfl rfl ?_
              refine w_iand X25 hx (hb hby at_184) (pc' := 185) rfl ?_
              have J193_27 : ∀ (v26 : Int64), v26 = (if (x5 &&& (1 : Int32)) = (0 : Int32) then x0 else (0 : Int64)) → Go p e below s room_1.cells room_1.slots (QL (some (.int 1)) n0) T25 (mkF m 193 #[.val (.long x0), .second, .val (.long x1), .second, .val (.long x2), .second, .val (.long x3), .second, .val (.int x4), .val (.int x5), .val (.ref b1), .val (.int (1 : Int32)), .val (.int v23), .val (.int (own_used [v2, v5, v8, v11] 1).toInt32), .unset] [(.long v26), (.long v2)]) := by
                intro v26 hv26
                refine w_lcmp X25 hx (hb hby at_193) (pc' := 194) rfl ?_
                have hf194 : v2 = v26 := hv2.trans hv26.symm
                refine w_ifL_ne X25 hx (hb hby at_194) (pf := 197) (pt := 264) rfl (by decide) (by decide) (fun hc => absurd hf194 hc) (fun hc194 => ?_)
                refine w_aload X25 hx (hb hby at_197) (pc' := 199) rfl rfl rfl ?_
                refine w_iconst (v := 1) X25 hx (hb hby at_199) (pc' := 200) rfl rfl ?_
                refine w_laload X25 hx hZ e25 V13 (v := v5) (by decide) rfl (hb hby at_200) (pc' := 201) rfl ?_
                refine w_iload X25 hx (hb hby at_201) (pc' := 203) rfl rfl ?_
                refine w_iconst (v := 2) X25 hx (hb hby at_203) (pc' := 204) rfl rfl ?_
                refine w_iand X25 hx (hb hby at_204) (pc' := 205) rfl ?_
                have J213_29 : ∀ (v28 : Int64), v28 = (if (x5 &&& (2 : Int32)) = (0 : Int32) then x1 else (0 : Int64)) → Go p e below s room_1.cells room_1.slots (QL (some (.int 1)) n0) T25 (mkF m 213 #[.val (.long x0), .second, .val (.long x1), .second, .val (.long x2), .second, .val (.long x3), .second, .val (.int x4), .val (.int x5), .val (.ref b1), .val (.int (1 : Int32)), .val (.int v23), .val (.int (own_used [v2, v5, v8, v11] 1).toInt32), .unset] [(.long v28), (.long v5)]) := by
                  intro v28 hv28
                  refine w_lcmp X25 hx (hb hby at_213) (pc' := 214) rfl ?_
                  have hf214 : v5 = v28 := hv5.trans hv28.symm
                  refine w_ifL_ne X25 hx (hb hby at_214) (pf := 217) (pt := 264) rfl (by decide) (by decide) (fun hc => absurd hf214 hc) (fun hc214 => ?_)
                  refine w_aload X25 hx (hb hby at_217) (pc' := 219) rfl rfl rfl ?_
                  refine w_iconst (v := 2) X25 hx (hb hby at_219) (pc' := 220) rfl rfl ?_
                  refine w_laload X25 hx hZ e25 V13 (v := v8) (by decide) rfl (hb hby at_220) (pc' := 221) rfl ?_
                  refine w_iload X25 hx (hb hby at_221) (pc' := 223) rfl rfl ?_
                  refine w_iconst (v := 4) X25 hx (hb hby at_223) (pc' := 224) rfl rfl ?_
                  refine w_iand X25 hx (hb hby at_224) (pc' := 225) rfl ?_
                  have J234_31 : ∀ (v30 : Int64), v30 = (if (x5 &&& (4 : Int32)) = (0 : Int32) then x2 else (0 : Int64)) → Go p e below s room_1.cells room_1.slots (QL (some (.int 1)) n0) T25 (mkF m 234 #[.val (.long x0), .second, .val (.long x1), .second, .val (.long x2), .second, .val (.long x3), .second, .val (.int x4), .val (.int x5), .val (.ref b1), .val (.int (1 : Int32)), .val (.int v23), .val (.int (own_used [v2, v5, v8, v11] 1).toInt32), .unset] [(.long v30), (.long v8)]) := by
                    intro v30 hv30
                    refine w_lcmp X25 hx (hb hby at_234) (pc' := 235) rfl ?_
                    have hf235 : v8 = v30 := hv8.trans hv30.symm
                    refine w_ifL_ne X25 hx (hb hby at_235) (pf := 238) (pt := 264) rfl (by decide) (by decide) (fun hc => absurd hf235 hc) (fun hc235 => ?_)
                    refine w_aload X25 hx (hb hby at_238) (pc' := 240) rfl rfl rfl ?_
                    refine w_iconst (v := 3) X25 hx (hb hby at_240) (pc' := 241) rfl rfl ?_
                    refine w_laload X25 hx hZ e25 V13 (v := v11) (by decide) rfl (hb hby at_241) (pc' := 242) rfl ?_
                    refine w_iload X25 hx (hb hby at_242) (pc' := 244) rfl rfl ?_
                    refine w_bipush (v := 8) X25 hx (hb hby at_244) (pc' := 246) rfl rfl ?_
                    refine w_iand X25 hx (hb hby at_246) (pc' := 247) rfl ?_
                    have J256_33 : ∀ (v32 : Int64), v32 = (if (x5 &&& (8 : Int32)) = (0 : Int32) then x3 else (0 : Int64)) → Go p e below s room_1.cells room_1.slots (QL (some (.int 1)) n0) T25 (mkF m 256 #[.val (.long x0), .second, .val (.long x1), .second, .val (.long x2), .second, .val (.long x3), .second, .val (.int x4), .val (.int x5), .val (.ref b1), .val (.int (1 : Int32)), .val (.int v23), .val (.int (own_used [v2, v5, v8, v11] 1).toInt32), .unset] [(.long v32), (.long v11)]) := by
                      intro v32 hv32
                      refine w_lcmp X25 hx (hb hby at_256) (pc' := 257) rfl ?_
                      have hf257 : v11 = v32 := hv11.trans hv32.symm
                      refine w_ifL_ne X25 hx (hb hby at_257) (pf := 260) (pt := 264) rfl (by decide) (by decide) (fun hc => absurd hf257 hc) (fun hc257 => ?_)
                      refine w_iconst (v := 1) X25 hx (hb hby at_260) (pc' := 261) rfl rfl ?_
                      refine w_goto X25 hx (hb hby at_261) (pc' := 265) (by decide) (by decide) ?_
                      refine w_istore (Ls' := #[.val (.long x0), .second, .val (.long x1), .second, .val (.long x2), .second, .val (.long x3), .second, .val (.int x4), .val (.int x5), .val (.ref b1), .val (.int (1 : Int32)), .val (.int v23), .val (.int (own_used [v2, v5, v8, v11] 1).toInt32), .val (.int (1 : Int32))]) X25 hx (hb hby at_265) (pc' := 267) rfl rfl ?_
                      refine w_iload X25 hx (hb hby at_267) (pc' := 269) rfl rfl ?_
                      refine w_iload X25 hx (hb hby at_269) (pc' := 271) rfl rfl ?_
                      have hf271 : (own_used [v2, v5, v8, v11] 1).toInt32 = v23 := (own_law.2.1).trans hv23.symm
                      refine w_icmp_ne X25 hx (hb hby at_271) (pf := 274) (pt := 283) rfl (by decide) (by decide) (fun hc => absurd hf271 hc) (fun hc271 => ?_)
                      refine w_iload X25 hx (hb hby at_274) (pc' := 276) rfl rfl ?_
                      have hf276 : ¬ ((1 : Int32) = (0 : Int32)) := (by decide)
                      refine w_if_eq X25 hx (hb hby at_276) (pf := 279) (pt := 283) rfl (by decide) (by decide) (fun hc => absurd hc hf276) (fun hc276 => ?_)
                      refine w_iconst (v := 1) X25 hx (hb hby at_279) (pc' := 280) rfl rfl ?_
                      refine w_goto X25 hx (hb hby at_280) (pc' := 284) (by decide) (by decide) ?_
                      exact w_retZ X25 hx hret hlk (hb hby at_284) (by decide) (by decide) ⟨rfl, N25⟩
                    refine w_if_eq X25 hx (hb hby at_247) (pf := 250) (pt := 254) rfl (by decide) (by decide) (fun hc247 => ?_) (fun hc247 => ?_)
                    · refine w_lload X25 hx (hb hby at_254) (pc' := 256) rfl rfl ?_
                      exact J256_33 (x3) (by rw [if_pos (show (x5 &&& (8 : Int32)) = (0 : Int32) from (by assumption))])
                    · refine w_lconst (v := 0) X25 hx (hb hby at_250) (pc' := 251) rfl rfl ?_
                      refine w_goto X25 hx (hb hby at_251) (pc' := 256) (by decide) (by decide) ?_
                      exact J256_33 ((0 : Int64)) (by rw [if_neg (show ¬ ((x5 &&& (8 : Int32)) = (0 : Int32)) from (by assumption))])
                  refine w_if_eq X25 hx (hb hby at_225) (pf := 228) (pt := 232) rfl (by decide) (by decide) (fun hc225 => ?_) (fun hc225 => ?_)
                  · refine w_lload X25 hx (hb hby at_232) (pc' := 234) rfl rfl ?_
                    exact J234_31 (x2) (by rw [if_pos (show (x5 &&& (4 : Int32)) = (0 : Int32) from (by assumption))])
                  · refine w_lconst (v := 0) X25 hx (hb hby at_228) (pc' := 229) rfl rfl ?_
                    refine w_goto X25 hx (hb hby at_229) (pc' := 234) (by decide) (by decide) ?_
                    exact J234_31 ((0 : Int64)) (by rw [if_neg (show ¬ ((x5 &&& (4 : Int32)) = (0 : Int32)) from (by assumption))])
                refine w_if_eq X25 hx (hb hby at_205) (pf := 208) (pt := 212) rfl (by decide) (by decide) (fun hc205 => ?_) (fun hc205 => ?_)
                · refine w_lloadN X25 hx (hb hby at_212) (pc' := 213) rfl rfl ?_
                  exact J213_29 (x1) (by rw [if_pos (show (x5 &&& (2 : Int32)) = (0 : Int32) from (by assumption))])
                · refine w_lconst (v := 0) X25 hx (hb hby at_208) (pc' := 209) rfl rfl ?_
                  refine w_goto X25 hx (hb hby at_209) (pc' := 213) (by decide) (by decide) ?_
                  exact J213_29 ((0 : Int64)) (by rw [if_neg (show ¬ ((x5 &&& (2 : Int32)) = (0 : Int32)) from (by assumption))])
              refine w_if_eq X25 hx (hb hby at_185) (pf := 188) (pt := 192) rfl (by decide) (by decide) (fun hc185 => ?_) (fun hc185 => ?_)
              · refine w_lloadN X25 hx (hb hby at_192) (pc' := 193) rfl rfl ?_
                exact J193_27 (x0) (by rw [if_pos (show (x5 &&& (1 : Int32)) = (0 : Int32) from (by assumption))])
              · refine w_lconst (v := 0) X25 hx (hb hby at_188) (pc' := 189) rfl rfl ?_
                refine w_goto X25 hx (hb hby at_189) (pc' := 193) (by decide) (by decide) ?_
                exact J193_27 ((0 : Int64)) (by rw [if_neg (show ¬ ((x5 &&& (1 : Int32)) = (0 : Int32)) from (by assumption))])
            refine w_ifL_eq X13 hx (hb hby at_156) (pf := 159) (pt := 165) rfl (by decide) (by decide) (fun hc156 => ?_) (fun hc156 => ?_)
            · refine w_iconst (v := 0) X13 hx (hb hby at_165) (pc' := 166) rfl rfl ?_
              refine w_istore (Ls' := #[.val (.long x0), .second, .val (.long x1), .second, .val (.long x2), .second, .val (.long x3), .second, .val (.int x4), .val (.int x5), .val (.ref b1), .val (.int (1 : Int32)), .val (.int (0 : Int32)), .unset, .unset]) X13 hx (hb hby at_166) (pc' := 168) rfl rfl ?_
              exact J168_24 ((0 : Int32)) (by rw [if_pos (show v2 = (0 : Int64) from (by assumption))])
            · refine w_iconst (v := 1) X13 hx (hb hby at_159) (pc' := 160) rfl rfl ?_
              refine w_istore (Ls' := #[.val (.long x0), .second, .val (.long x1), .second, .val (.long x2), .second, .val (.long x3), .second, .val (.int x4), .val (.int x5), .val (.ref b1), .val (.int (1 : Int32)), .val (.int (1 : Int32)), .unset, .unset]) X13 hx (hb hby at_160) (pc' := 162) rfl rfl ?_
              refine w_goto X13 hx (hb hby at_162) (pc' := 168) (by decide) (by decide) ?_
              exact J168_24 ((1 : Int32)) (by rw [if_neg (show ¬ (v2 = (0 : Int64)) from (by assumption))])
          · refine w_iload X13 hx (hb hby at_81) (pc' := 83) rfl rfl ?_
            refine w_iconst (v := 4) X13 hx (hb hby at_83) (pc' := 84) rfl rfl ?_
            have hf84 : (2 : Int32) < (4 : Int32) := (by decide)
            refine w_icmp_lt X13 hx (hb hby at_84) (pf := 87) (pt := 102) rfl (by decide) (by decide) (fun hc84 => ?_) (fun hc => absurd hf84 hc)
            refine w_iload X13 hx (hb hby at_102) (pc' := 104) rfl rfl ?_
            refine w_iconst (v := 3) X13 hx (hb hby at_104) (pc' := 105) rfl rfl ?_
            have hf105 : (2 : Int32) < (3 : Int32) := (by decide)
            refine w_icmp_lt X13 hx (hb hby at_105) (pf := 108) (pt := 123) rfl (by decide) (by decide) (fun hc105 => ?_) (fun hc => absurd hf105 hc)
            refine w_iload X13 hx (hb hby at_123) (pc' := 125) rfl rfl ?_
            refine w_iconst (v := 2) X13 hx (hb hby at_125) (pc' := 126) rfl rfl ?_
            have hf126 : ¬ ((2 : Int32) < (2 : Int32)) := (by decide)
            refine w_icmp_lt X13 hx (hb hby at_126) (pf := 129) (pt := 144) rfl (by decide) (by decide) (fun hc => absurd hc hf126) (fun hc126 => ?_)
            refine w_aload X13 hx (hb hby at_129) (pc' := 131) rfl rfl rfl ?_
            refine w_iconst (v := 1) X13 hx (hb hby at_131) (pc' := 132) rfl rfl ?_
            refine w_laload X13 hx hZ e13 V13 (v := v5) (by decide) rfl (hb hby at_132) (pc' := 133) rfl ?_
            refine w_lconst (v := 0) X13 hx (hb hby at_133) (pc' := 134) rfl rfl ?_
            refine w_lcmp X13 hx (hb hby at_134) (pc' := 135) rfl ?_
            have J168_35 : ∀ (v34 : Int32), v34 = (if v5 = (0 : Int64) then (if v2 = (0 : Int64) then (0 : Int32) else (1 : Int32)) else (2 : Int32)) → Go p e below s room_1.cells room_1.slots (QL (some (.int 1)) n0) T13 (mkF m 168 #[.val (.long x0), .second, .val (.long x1), .second, .val (.long x2), .second, .val (.long x3), .second, .val (.int x4), .val (.int x5), .val (.ref b1), .val (.int (2 : Int32)), .val (.int v34), .unset, .unset] []) := by
              intro v34 hv34
              refine w_aload X13 hx (hb hby at_168) (pc' := 170) rfl rfl rfl ?_
              refine w_iload X13 hx (hb hby at_170) (pc' := 172) rfl rfl ?_
              refine w_callS (argsL := [(.ref b1), (.int (2 : Int32))]) (rest := []) X13 hx hZ hown e13 (rm1 l Z a0 hw b1 (2 : Int32) h13 n0 [v2, v5, v8, v11] 2 V13 (by show 2 ≤ 4; decide) rfl) (hw _ (List.mem_of_getElem? (i := 2) rfl)) (hw _ (List.mem_of_getElem? (i := 3) rfl)) (hw _ (List.mem_of_getElem? (i := 4) rfl)) (hw _ (List.mem_of_getElem? (i := 5) rfl)) (by decide) (by decide) (W := 0) (by decide) (by decide) (by decide) (by rw [hml]; rfl) (lenOf pd_0 rfl) (Nat.le_refl _) rfl (hb hby at_172) (pc' := 175) rfl (fun T36 L36 v36 X36 hQ36 => ?_)
              obtain ⟨rfl, N36q, e36⟩ := hQ36
              have N36 := Fr.app N13 N36q
              have X36 : Stand p l e room_1 s m _ below meth c T36 _ 1 4 := X36
              show Go p e below s room_1.cells room_1.slots (QL (some (.int 1)) n0) T36 (mkF m 175 #[.val (.long x0), .second, .val (.long x1), .second, .val (.long x2), .second, .val (.long x3), .second, .val (.int x4), .val (.int x5), .val (.ref b1), .val (.int (2 : Int32)), .val (.int v34), .unset, .unset] [(.int (own_used [v2, v5, v8, v11] 2).toInt32)])
              refine w_istore (Ls' := #[.val (.long x0), .second, .val (.long x1), .second, .val (.long x2), .second, .val (.long x3), .second, .val (.int x4), .val (.int x5), .val (.ref b1), .val (.int (2 : Int32)), .val (.int v34), .val (.int (own_used [v2, v5, v8, v11] 2).toInt32), .unset]) X36 hx (hb hby at_175) (pc' := 177) rfl rfl ?_
              refine w_aload X36 hx (hb hby at_177) (pc' := 179) rfl rfl rfl ?_
              refine w_iconst (v := 0) X36 hx (hb hby at_179) (pc' := 180) rfl rfl ?_
              refine w_laload X36 hx hZ e36 V13 (v := v2) (by decide) rfl (hb hby at_180) (pc' := 181) rfl ?_
              refine w_iload X36 hx (hb hby at_181) (pc' := 183) rfl rfl ?_
              refine w_iconst (v := 1) X36 hx (hb hby at_183) (pc' := 184) rfl rfl ?_
              refine w_iand X36 hx (hb hby at_184) (pc' := 185) rfl ?_
              have J193_38 : ∀ (v37 : Int64), v37 = (if (x5 &&& (1 : Int32)) = (0 : Int32) then x0 else (0 : Int64)) → Go p e below s room_1.cells room_1.slots (QL (some (.int 1)) n0) T36 (mkF m 193 #[.val (.long x0), .second, .val (.long x1), .second, .val (.long x2), .second, .val (.long x3), .second, .val (.int x4), .val (.int x5), .val (.ref b1), .val (.int (2 : Int32)), .val (.int v34), .val (.int (own_used [v2, v5, v8, v11] 2).toInt32), .unset] [(.long v37), (.long v2)]) := by
                intro v37 hv37
                refine w_lcmp X36 hx (hb hby at_193) (pc' := 194) rfl ?_
                have hf194 : v2 = v37 := hv2.trans hv37.symm
                refine w_ifL_ne X36 hx (hb hby at_194) (pf := 197) (pt := 264) rfl (by decide) (by decide) (fun hc => absurd hf194 hc) (fun hc194 => ?_)
                refine w_aload X36 hx (hb hby at_197) (pc' := 199) rfl rfl rfl ?_
                refine w_iconst (v := 1) X36 hx (hb hby at_199) (pc' := 200) rfl rfl ?_
                refine w_laload X36 hx hZ e36 V13 (v := v5) (by decide) rfl (hb hby at_200) (pc' := 201) rfl ?_
                refine w_iload X36 hx (hb hby at_201) (pc' := 203) rfl rfl ?_
                refine w_iconst (v := 2) X36 hx (hb hby at_203) (pc' := 204) rfl rfl ?_
                refine w_iand X36 hx (hb hby at_204) (pc' := 205) rfl ?_
                have J213_40 : ∀ (v39 : Int64), v39 = (if (x5 &&& (2 : Int32)) = (0 : Int32) then x1 else (0 : Int64)) → Go p e below s room_1.cells room_1.slots (QL (some (.int 1)) n0) T36 (mkF m 213 #[.val (.long x0), .second, .val (.long x1), .second, .val (.long x2), .second, .val (.long x3), .second, .val (.int x4), .val (.int x5), .val (.ref b1), .val (.int (2 : Int32)), .val (.int v34), .val (.int (own_used [v2, v5, v8, v11] 2).toInt32), .unset] [(.long v39), (.long v5)]) := by
                  intro v39 hv39
                  refine w_lcmp X36 hx (hb hby at_213) (pc' := 214) rfl ?_
                  have hf214 : v5 = v39 := hv5.trans hv39.symm
                  refine w_ifL_ne X36 hx (hb hby at_214) (pf := 217) (pt := 264) rfl (by decide) (by decide) (fun hc => absurd hf214 hc) (fun hc214 => ?_)
                  refine w_aload X36 hx (hb hby at_217) (pc' := 219) rfl rfl rfl ?_
                  refine w_iconst (v := 2) X36 hx (hb hby at_219) (pc' := 220) rfl rfl ?_
                  refine w_laload X36 hx hZ e36 V13 (v := v8) (by decide) rfl (hb hby at_220) (pc' := 221) rfl ?_
                  refine w_iload X36 hx (hb hby at_221) (pc' := 223) rfl rfl ?_
                  refine w_iconst (v := 4) X36 hx (hb hby at_223) (pc' := 224) rfl rfl ?_
                  refine w_iand X36 hx (hb hby at_224) (pc' := 225) rfl ?_
                  have J234_42 : ∀ (v41 : Int64), v41 = (if (x5 &&& (4 : Int32)) = (0 : Int32) then x2 else (0 : Int64)) → Go p e below s room_1.cells room_1.slots (QL (some (.int 1)) n0) T36 (mkF m 234 #[.val (.long x0), .second, .val (.long x1), .second, .val (.long x2), .second, .val (.long x3), .second, .val (.int x4), .val (.int x5), .val (.ref b1), .val (.int (2 : Int32)), .val (.int v34), .val (.int (own_used [v2, v5, v8, v11] 2).toInt32), .unset] [(.long v41), (.long v8)]) := by
                    intro v41 hv41
                    refine w_lcmp X36 hx (hb hby at_234) (pc' := 235) rfl ?_
                    have hf235 : v8 = v41 := hv8.trans hv41.symm
                    refine w_ifL_ne X36 hx (hb hby at_235) (pf := 238) (pt := 264) rfl (by decide) (by decide) (fun hc => absurd hf235 hc) (fun hc235 => ?_)
                    refine w_aload X36 hx (hb hby at_238) (pc' := 240) rfl rfl rfl ?_
                    refine w_iconst (v := 3) X36 hx (hb hby at_240) (pc' := 241) rfl rfl ?_
                    refine w_laload X36 hx hZ e36 V13 (v := v11) (by decide) rfl (hb hby at_241) (pc' := 242) rfl ?_
                    refine w_iload X36 hx (hb hby at_242) (pc' := 244) rfl rfl ?_
                    refine w_bipush (v := 8) X36 hx (hb hby at_244) (pc' := 246) rfl rfl ?_
                    refine w_iand X36 hx (hb hby at_246) (pc' := 247) rfl ?_
                    have J256_44 : ∀ (v43 : Int64), v43 = (if (x5 &&& (8 : Int32)) = (0 : Int32) then x3 else (0 : Int64)) → Go p e below s room_1.cells room_1.slots (QL (some (.int 1)) n0) T36 (mkF m 256 #[.val (.long x0), .second, .val (.long x1), .second, .val (.long x2), .second, .val (.long x3), .second, .val (.int x4), .val (.int x5), .val (.ref b1), .val (.int (2 : Int32)), .val (.int v34), .val (.int (own_used [v2, v5, v8, v11] 2).toInt32), .unset] [(.long v43), (.long v11)]) := by
                      intro v43 hv43
                      refine w_lcmp X36 hx (hb hby at_256) (pc' := 257) rfl ?_
                      have hf257 : v11 = v43 := hv11.trans hv43.symm
                      refine w_ifL_ne X36 hx (hb hby at_257) (pf := 260) (pt := 264) rfl (by decide) (by decide) (fun hc => absurd hf257 hc) (fun hc257 => ?_)
                      refine w_iconst (v := 1) X36 hx (hb hby at_260) (pc' := 261) rfl rfl ?_
                      refine w_goto X36 hx (hb hby at_261) (pc' := 265) (by decide) (by decide) ?_
                      refine w_istore (Ls' := #[.val (.long x0), .second, .val (.long x1), .second, .val (.long x2), .second, .val (.long x3), .second, .val (.int x4), .val (.int x5), .val (.ref b1), .val (.int (2 : Int32)), .val (.int v34), .val (.int (own_used [v2, v5, v8, v11] 2).toInt32), .val (.int (1 : Int32))]) X36 hx (hb hby at_265) (pc' := 267) rfl rfl ?_
                      refine w_iload X36 hx (hb hby at_267) (pc' := 269) rfl rfl ?_
                      refine w_iload X36 hx (hb hby at_269) (pc' := 271) rfl rfl ?_
                      have hf271 : (own_used [v2, v5, v8, v11] 2).toInt32 = v34 := (own_law.2.2.1).trans hv34.symm
                      refine w_icmp_ne X36 hx (hb hby at_271) (pf := 274) (pt := 283) rfl (by decide) (by decide) (fun hc => absurd hf271 hc) (fun hc271 => ?_)
                      refine w_iload X36 hx (hb hby at_274) (pc' := 276) rfl rfl ?_
                      have hf276 : ¬ ((1 : Int32) = (0 : Int32)) := (by decide)
                      refine w_if_eq X36 hx (hb hby at_276) (pf := 279) (pt := 283) rfl (by decide) (by decide) (fun hc => absurd hc hf276) (fun hc276 => ?_)
                      refine w_iconst (v := 1) X36 hx (hb hby at_279) (pc' := 280) rfl rfl ?_
                      refine w_goto X36 hx (hb hby at_280) (pc' := 284) (by decide) (by decide) ?_
                      exact w_retZ X36 hx hret hlk (hb hby at_284) (by decide) (by decide) ⟨rfl, N36⟩
                    refine w_if_eq X36 hx (hb hby at_247) (pf := 250) (pt := 254) rfl (by decide) (by decide) (fun hc247 => ?_) (fun hc247 => ?_)
                    · refine w_lload X36 hx (hb hby at_254) (pc' := 256) rfl rfl ?_
                      exact J256_44 (x3) (by rw [if_pos (show (x5 &&& (8 : Int32)) = (0 : Int32) from (by assumption))])
                    · refine w_lconst (v := 0) X36 hx (hb hby at_250) (pc' := 251) rfl rfl ?_
                      refine w_goto X36 hx (hb hby at_251) (pc' := 256) (by decide) (by decide) ?_
                      exact J256_44 ((0 : Int64)) (by rw [if_neg (show ¬ ((x5 &&& (8 : Int32)) = (0 : Int32)) from (by assumption))])
                  refine w_if_eq X36 hx (hb hby at_225) (pf := 228) (pt := 232) rfl (by decide) (by decide) (fun hc225 => ?_) (fun hc225 => ?_)
                  · refine w_lload X36 hx (hb hby at_232) (pc' := 234) rfl rfl ?_
                    exact J234_42 (x2) (by rw [if_pos (show (x5 &&& (4 : Int32)) = (0 : Int32) from (by assumption))])
                  · refine w_lconst (v := 0) X36 hx (hb hby at_228) (pc' := 229) rfl rfl ?_
                    refine w_goto X36 hx (hb hby at_229) (pc' := 234) (by decide) (by decide) ?_
                    exact J234_42 ((0 : Int64)) (by rw [if_neg (show ¬ ((x5 &&& (4 : Int32)) = (0 : Int32)) from (by assumption))])
                refine w_if_eq X36 hx (hb hby at_205) (pf := 208) (pt := 212) rfl (by decide) (by decide) (fun hc205 => ?_) (fun hc205 => ?_)
                · refine w_lloadN X36 hx (hb hby at_212) (pc' := 213) rfl rfl ?_
                  exact J213_40 (x1) (by rw [if_pos (show (x5 &&& (2 : Int32)) = (0 : Int32) from (by assumption))])
                · refine w_lconst (v := 0) X36 hx (hb hby at_208) (pc' := 209) rfl rfl ?_
                  refine w_goto X36 hx (hb hby at_209) (pc' := 213) (by decide) (by decide) ?_
                  exact J213_40 ((0 : Int64)) (by rw [if_neg (show ¬ ((x5 &&& (2 : Int32)) = (0 : Int32)) from (by assumption))])
              refine w_if_eq X36 hx (hb hby at_185) (pf := 188) (pt := 192) rfl (by decide) (by decide) (fun hc185 => ?_) (fun hc185 => ?_)
              · refine w_lloadN X36 hx (hb hby at_192) (pc' := 193) rfl rfl ?_
                exact J193_38 (x0) (by rw [if_pos (show (x5 &&& (1 : Int32)) = (0 : Int32) from (by assumption))])
              · refine w_lconst (v := 0) X36 hx (hb hby at_188) (pc' := 189) rfl rfl ?_
                refine w_goto X36 hx (hb hby at_189) (pc' := 193) (by decide) (by decide) ?_
                exact J193_38 ((0 : Int64)) (by rw [if_neg (show ¬ ((x5 &&& (1 : Int32)) = (0 : Int32)) from (by assumption))])
            refine w_ifL_eq X13 hx (hb hby at_135) (pf := 138) (pt := 144) rfl (by decide) (by decide) (fun hc135 => ?_) (fun hc135 => ?_)
            · refine w_iload X13 hx (hb hby at_144) (pc' := 146) rfl rfl ?_
              refine w_iconst (v := 1) X13 hx (hb hby at_146) (pc' := 147) rfl rfl ?_
              have hf147 : ¬ ((2 : Int32) < (1 : Int32)) := (by decide)
              refine w_icmp_lt X13 hx (hb hby at_147) (pf := 150) (pt := 165) rfl (by decide) (by decide) (fun hc => absurd hc hf147) (fun hc147 => ?_)
              refine w_aload X13 hx (hb hby at_150) (pc' := 152) rfl rfl rfl ?_
              refine w_iconst (v := 0) X13 hx (hb hby at_152) (pc' := 153) rfl rfl ?_
              refine w_laload X13 hx hZ e13 V13 (v := v2) (by decide) rfl (hb hby at_153) (pc' := 154) rfl ?_
              refine w_lconst (v := 0) X13 hx (hb hby at_154) (pc' := 155) rfl rfl ?_
              refine w_lcmp X13 hx (hb hby at_155) (pc' := 156) rfl ?_
              refine w_ifL_eq X13 hx (hb hby at_156) (pf := 159) (pt := 165) rfl (by decide) (by decide) (fun hc156 => ?_) (fun hc156 => ?_)
              · refine w_iconst (v := 0) X13 hx (hb hby at_165) (pc' := 166) rfl rfl ?_
                refine w_istore (Ls' := #[.val (.long x0), .second, .val (.long x1), .second, .val (.long x2), .second, .val (.long x3), .second, .val (.int x4), .val (.int x5), .val (.ref b1), .val (.int (2 : Int32)), .val (.int (0 : Int32)), .unset, .unset]) X13 hx (hb hby at_166) (pc' := 168) rfl rfl ?_
                exact J168_35 ((0 : Int32)) (by rw [if_pos (show v5 = (0 : Int64) from (by assumption)), if_pos (show v2 = (0 : Int64) from (by assumption))])
              · refine w_iconst (v := 1) X13 hx (hb hby at_159) (pc' := 160) rfl rfl ?_
                refine w_istore (Ls' := #[.val (.long x0), .second, .val (.long x1), .second, .val (.long x2), .second, .val (.long x3), .second, .val (.int x4), .val (.int x5), .val (.ref b1), .val (.int (2 : Int32)), .val (.int (1 : Int32)), .unset, .unset]) X13 hx (hb hby at_160) (pc' := 162) rfl rfl ?_
                refine w_goto X13 hx (hb hby at_162) (pc' := 168) (by decide) (by decide) ?_
                exact J168_35 ((1 : Int32)) (by rw [if_pos (show v5 = (0 : Int64) from (by assumption)), if_neg (show ¬ (v2 = (0 : Int64)) from (by assumption))])
            · refine w_iconst (v := 2) X13 hx (hb hby at_138) (pc' := 139) rfl rfl ?_
              refine w_istore (Ls' := #[.val (.long x0), .second, .val (.long x1), .second, .val (.long x2), .second, .val (.long x3), .second, .val (.int x4), .val (.int x5), .val (.ref b1), .val (.int (2 : Int32)), .val (.int (2 : Int32)), .unset, .unset]) X13 hx (hb hby at_139) (pc' := 141) rfl rfl ?_
              refine w_goto X13 hx (hb hby at_141) (pc' := 168) (by decide) (by decide) ?_
              exact J168_35 ((2 : Int32)) (by rw [if_neg (show ¬ (v5 = (0 : Int64)) from (by assumption))])
          · refine w_iload X13 hx (hb hby at_81) (pc' := 83) rfl rfl ?_
            refine w_iconst (v := 4) X13 hx (hb hby at_83) (pc' := 84) rfl rfl ?_
            have hf84 : (3 : Int32) < (4 : Int32) := (by decide)
            refine w_icmp_lt X13 hx (hb hby at_84) (pf := 87) (pt := 102) rfl (by decide) (by decide) (fun hc84 => ?_) (fun hc => absurd hf84 hc)
            refine w_iload X13 hx (hb hby at_102) (pc' := 104) rfl rfl ?_
            refine w_iconst (v := 3) X13 hx (hb hby at_104) (pc' := 105) rfl rfl ?_
            have hf105 : ¬ ((3 : Int32) < (3 : Int32)) := (by decide)
            refine w_icmp_lt X13 hx (hb hby at_105) (pf := 108) (pt := 123) rfl (by decide) (by decide) (fun hc => absurd hc hf105) (fun hc105 => ?_)
            refine w_aload X13 hx (hb hby at_108) (pc' := 110) rfl rfl rfl ?_
            refine w_iconst (v := 2) X13 hx (hb hby at_110) (pc' := 111) rfl rfl ?_
            refine w_laload X13 hx hZ e13 V13 (v := v8) (by decide) rfl (hb hby at_111) (pc' := 112) rfl ?_
            refine w_lconst (v := 0) X13 hx (hb hby at_112) (pc' := 113) rfl rfl ?_
            refine w_lcmp X13 hx (hb hby at_113) (pc' := 114) rfl ?_
            have J168_46 : ∀ (v45 : Int32), v45 = (if v8 = (0 : Int64) then (if v5 = (0 : Int64) then (if v2 = (0 : Int64) then (0 : Int32) else (1 : Int32)) else (2 : Int32)) else (3 : Int32)) → Go p e below s room_1.cells room_1.slots (QL (some (.int 1)) n0) T13 (mkF m 168 #[.val (.long x0), .second, .val (.long x1), .second, .val (.long x2), .second, .val (.long x3), .second, .val (.int x4), .val (.int x5), .val (.ref b1), .val (.int (3 : Int32)), .val (.int v45), .unset, .unset] []) := by
              intro v45 hv45
              refine w_aload X13 hx (hb hby at_168) (pc' := 170) rfl rfl rfl ?_
              refine w_iload X13 hx (hb hby at_170) (pc' := 172) rfl rfl ?_
              refine w_callS (argsL := [(.ref b1), (.int (3 : Int32))]) (rest := []) X13 hx hZ hown e13 (rm1 l Z a0 hw b1 (3 : Int32) h13 n0 [v2, v5, v8, v11] 3 V13 (by show 3 ≤ 4; decide) rfl) (hw _ (List.mem_of_getElem? (i := 2) rfl)) (hw _ (List.mem_of_getElem? (i := 3) rfl)) (hw _ (List.mem_of_getElem? (i := 4) rfl)) (hw _ (List.mem_of_getElem? (i := 5) rfl)) (by decide) (by decide) (W := 0) (by decide) (by decide) (by decide) (by rw [hml]; rfl) (lenOf pd_0 rfl) (Nat.le_refl _) rfl (hb hby at_172) (pc' := 175) rfl (fun T47 L47 v47 X47 hQ47 => ?_)
              obtain ⟨rfl, N47q, e47⟩ := hQ47
              have N47 := Fr.app N13 N47q
              have X47 : Stand p l e room_1 s m _ below meth c T47 _ 1 4 := X47
              show Go p e below s room_1.cells room_1.slots (QL (some (.int 1)) n0) T47 (mkF m 175 #[.val (.long x0), .second, .val (.long x1), .second, .val (.long x2), .second, .val (.long x3), .second, .val (.int x4), .val (.int x5), .val (.ref b1), .val (.int (3 : Int32)), .val (.int v45), .unset, .unset] [(.int (own_used [v2, v5, v8, v11] 3).toInt32)])
              refine w_istore (Ls' := #[.val (.long x0), .second, .val (.long x1), .second, .val (.long x2), .second, .val (.long x3), .second, .val (.int x4), .val (.int x5), .val (.ref b1), .val (.int (3 : Int32)), .val (.int v45), .val (.int (own_used [v2, v5, v8, v11] 3).toInt32), .unset]) X47 hx (hb hby at_175) (pc' := 177) rfl rfl ?_
              refine w_aload X47 hx (hb hby at_177) (pc' := 179) rfl rfl rfl ?_
              refine w_iconst (v := 0) X47 hx (hb hby at_179) (pc' := 180) rfl rfl ?_
              refine w_laload X47 hx hZ e47 V13 (v := v2) (by decide) rfl (hb hby at_180) (pc' := 181) rfl ?_
              refine w_iload X47 hx (hb hby at_181) (pc' := 183) rfl rfl ?_
              refine w_iconst (v := 1) X47 hx (hb hby at_183) (pc' := 184) rfl rfl ?_
              refine w_iand X47 hx (hb hby at_184) (pc' := 185) rfl ?_
              have J193_49 : ∀ (v48 : Int64), v48 = (if (x5 &&& (1 : Int32)) = (0 : Int32) then x0 else (0 : Int64)) → Go p e below s room_1.cells room_1.slots (QL (some (.int 1)) n0) T47 (mkF m 193 #[.val (.long x0), .second, .val (.long x1), .second, .val (.long x2), .second, .val (.long x3), .second, .val (.int x4), .val (.int x5), .val (.ref b1), .val (.int (3 : Int32)), .val (.int v45), .val (.int (own_used [v2, v5, v8, v11] 3).toInt32), .unset] [(.long v48), (.long v2)]) := by
                intro v48 hv48
                refine w_lcmp X47 hx (hb hby at_193) (pc' := 194) rfl ?_
                have hf194 : v2 = v48 := hv2.trans hv48.symm
                refine w_ifL_ne X47 hx (hb hby at_194) (pf := 197) (pt := 264) rfl (by decide) (by decide) (fun hc => absurd hf194 hc) (fun hc194 => ?_)
                refine w_aload X47 hx (hb hby at_197) (pc' := 199) rfl rfl rfl ?_
                refine w_iconst (v := 1) X47 hx (hb hby at_199) (pc' := 200) rfl rfl ?_
                refine w_laload X47 hx hZ e47 V13 (v := v5) (by decide) rfl (hb hby at_200) (pc' := 201) rfl ?_
                refine w_iload X47 hx (hb hby at_201) (pc' := 203) rfl rfl ?_
                refine w_iconst (v := 2) X47 hx (hb hby at_203) (pc' := 204) rfl rfl ?_
                refine w_iand X47 hx (hb hby at_204) (pc' := 205) rfl ?_
                have J213_51 : ∀ (v50 : Int64), v50 = (if (x5 &&& (2 : Int32)) = (0 : Int32) then x1 else (0 : Int64)) → Go p e below s room_1.cells room_1.slots (QL (some (.int 1)) n0) T47 (mkF m 213 #[.val (.long x0), .second, .val (.long x1), .second, .val (.long x2), .second, .val (.long x3), .second, .val (.int x4), .val (.int x5), .val (.ref b1), .val (.int (3 : Int32)), .val (.int v45), .val (.int (own_used [v2, v5, v8, v11] 3).toInt32), .unset] [(.long v50), (.long v5)]) := by
                  intro v50 hv50
                  refine w_lcmp X47 hx (hb hby at_213) (pc' := 214) rfl ?_
                  have hf214 : v5 = v50 := hv5.trans hv50.symm
                  refine w_ifL_ne X47 hx (hb hby at_214) (pf := 217) (pt := 264) rfl (by decide) (by decide) (fun hc => absurd hf214 hc) (fun hc214 => ?_)
                  refine w_aload X47 hx (hb hby at_217) (pc' := 219) rfl rfl rfl ?_
                  refine w_iconst (v := 2) X47 hx (hb hby at_219) (pc' := 220) rfl rfl ?_
                  refine w_laload X47 hx hZ e47 V13 (v := v8) (by decide) rfl (hb hby at_220) (pc' := 221) rfl ?_
                  refine w_iload X47 hx (hb hby at_221) (pc' := 223) rfl rfl ?_
                  refine w_iconst (v := 4) X47 hx (hb hby at_223) (pc' := 224) rfl rfl ?_
                  refine w_iand X47 hx (hb hby at_224) (pc' := 225) rfl ?_
                  have J234_53 : ∀ (v52 : Int64), v52 = (if (x5 &&& (4 : Int32)) = (0 : Int32) then x2 else (0 : Int64)) → Go p e below s room_1.cells room_1.slots (QL (some (.int 1)) n0) T47 (mkF m 234 #[.val (.long x0), .second, .val (.long x1), .second, .val (.long x2), .second, .val (.long x3), .second, .val (.int x4), .val (.int x5), .val (.ref b1), .val (.int (3 : Int32)), .val (.int v45), .val (.int (own_used [v2, v5, v8, v11] 3).toInt32), .unset] [(.long v52), (.long v8)]) := by
                    intro v52 hv52
                    refine w_lcmp X47 hx (hb hby at_234) (pc' := 235) rfl ?_
                    have hf235 : v8 = v52 := hv8.trans hv52.symm
                    refine w_ifL_ne X47 hx (hb hby at_235) (pf := 238) (pt := 264) rfl (by decide) (by decide) (fun hc => absurd hf235 hc) (fun hc235 => ?_)
                    refine w_aload X47 hx (hb hby at_238) (pc' := 240) rfl rfl rfl ?_
                    refine w_iconst (v := 3) X47 hx (hb hby at_240) (pc' := 241) rfl rfl ?_
                    refine w_laload X47 hx hZ e47 V13 (v := v11) (by decide) rfl (hb hby at_241) (pc' := 242) rfl ?_
                    refine w_iload X47 hx (hb hby at_242) (pc' := 244) rfl rfl ?_
                    refine w_bipush (v := 8) X47 hx (hb hby at_244) (pc' := 246) rfl rfl ?_
                    refine w_iand X47 hx (hb hby at_246) (pc' := 247) rfl ?_
                    have J256_55 : ∀ (v54 : Int64), v54 = (if (x5 &&& (8 : Int32)) = (0 : Int32) then x3 else (0 : Int64)) → Go p e below s room_1.cells room_1.slots (QL (some (.int 1)) n0) T47 (mkF m 256 #[.val (.long x0), .second, .val (.long x1), .second, .val (.long x2), .second, .val (.long x3), .second, .val (.int x4), .val (.int x5), .val (.ref b1), .val (.int (3 : Int32)), .val (.int v45), .val (.int (own_used [v2, v5, v8, v11] 3).toInt32), .unset] [(.long v54), (.long v11)]) := by
                      intro v54 hv54
                      refine w_lcmp X47 hx (hb hby at_256) (pc' := 257) rfl ?_
                      have hf257 : v11 = v54 := hv11.trans hv54.symm
                      refine w_ifL_ne X47 hx (hb hby at_257) (pf := 260) (pt := 264) rfl (by decide) (by decide) (fun hc => absurd hf257 hc) (fun hc257 => ?_)
                      refine w_iconst (v := 1) X47 hx (hb hby at_260) (pc' := 261) rfl rfl ?_
                      refine w_goto X47 hx (hb hby at_261) (pc' := 265) (by decide) (by decide) ?_
                      refine w_istore (Ls' := #[.val (.long x0), .second, .val (.long x1), .second, .val (.long x2), .second, .val (.long x3), .second, .val (.int x4), .val (.int x5), .val (.ref b1), .val (.int (3 : Int32)), .val (.int v45), .val (.int (own_used [v2, v5, v8, v11] 3).toInt32), .val (.int (1 : Int32))]) X47 hx (hb hby at_265) (pc' := 267) rfl rfl ?_
                      refine w_iload X47 hx (hb hby at_267) (pc' := 269) rfl rfl ?_
                      refine w_iload X47 hx (hb hby at_269) (pc' := 271) rfl rfl ?_
                      have hf271 : (own_used [v2, v5, v8, v11] 3).toInt32 = v45 := (own_law.2.2.2.1).trans hv45.symm
                      refine w_icmp_ne X47 hx (hb hby at_271) (pf := 274) (pt := 283) rfl (by decide) (by decide) (fun hc => absurd hf271 hc) (fun hc271 => ?_)
                      refine w_iload X47 hx (hb hby at_274) (pc' := 276) rfl rfl ?_
                      have hf276 : ¬ ((1 : Int32) = (0 : Int32)) := (by decide)
                      refine w_if_eq X47 hx (hb hby at_276) (pf := 279) (pt := 283) rfl (by decide) (by decide) (fun hc => absurd hc hf276) (fun hc276 => ?_)
                      refine w_iconst (v := 1) X47 hx (hb hby at_279) (pc' := 280) rfl rfl ?_
                      refine w_goto X47 hx (hb hby at_280) (pc' := 284) (by decide) (by decide) ?_
                      exact w_retZ X47 hx hret hlk (hb hby at_284) (by decide) (by decide) ⟨rfl, N47⟩
                    refine w_if_eq X47 hx (hb hby at_247) (pf := 250) (pt := 254) rfl (by decide) (by decide) (fun hc247 => ?_) (fun hc247 => ?_)
                    · refine w_lload X47 hx (hb hby at_254) (pc' := 256) rfl rfl ?_
                      exact J256_55 (x3) (by rw [if_pos (show (x5 &&& (8 : Int32)) = (0 : Int32) from (by assumption))])
                    · refine w_lconst (v := 0) X47 hx (hb hby at_250) (pc' := 251) rfl rfl ?_
                      refine w_goto X47 hx (hb hby at_251) (pc' := 256) (by decide) (by decide) ?_
                      exact J256_55 ((0 : Int64)) (by rw [if_neg (show ¬ ((x5 &&& (8 : Int32)) = (0 : Int32)) from (by assumption))])
                  refine w_if_eq X47 hx (hb hby at_225) (pf := 228) (pt := 232) rfl (by decide) (by decide) (fun hc225 => ?_) (fun hc225 => ?_)
                  · refine w_lload X47 hx (hb hby at_232) (pc' := 234) rfl rfl ?_
                    exact J234_53 (x2) (by rw [if_pos (show (x5 &&& (4 : Int32)) = (0 : Int32) from (by assumption))])
                  · refine w_lconst (v := 0) X47 hx (hb hby at_228) (pc' := 229) rfl rfl ?_
                    refine w_goto X47 hx (hb hby at_229) (pc' := 234) (by decide) (by decide) ?_
                    exact J234_53 ((0 : Int64)) (by rw [if_neg (show ¬ ((x5 &&& (4 : Int32)) = (0 : Int32)) from (by assumption))])
                refine w_if_eq X47 hx (hb hby at_205) (pf := 208) (pt := 212) rfl (by decide) (by decide) (fun hc205 => ?_) (fun hc205 => ?_)
                · refine w_lloadN X47 hx (hb hby at_212) (pc' := 213) rfl rfl ?_
                  exact J213_51 (x1) (by rw [if_pos (show (x5 &&& (2 : Int32)) = (0 : Int32) from (by assumption))])
                · refine w_lconst (v := 0) X47 hx (hb hby at_208) (pc' := 209) rfl rfl ?_
                  refine w_goto X47 hx (hb hby at_209) (pc' := 213) (by decide) (by decide) ?_
                  exact J213_51 ((0 : Int64)) (by rw [if_neg (show ¬ ((x5 &&& (2 : Int32)) = (0 : Int32)) from (by assumption))])
              refine w_if_eq X47 hx (hb hby at_185) (pf := 188) (pt := 192) rfl (by decide) (by decide) (fun hc185 => ?_) (fun hc185 => ?_)
              · refine w_lloadN X47 hx (hb hby at_192) (pc' := 193) rfl rfl ?_
                exact J193_49 (x0) (by rw [if_pos (show (x5 &&& (1 : Int32)) = (0 : Int32) from (by assumption))])
              · refine w_lconst (v := 0) X47 hx (hb hby at_188) (pc' := 189) rfl rfl ?_
                refine w_goto X47 hx (hb hby at_189) (pc' := 193) (by decide) (by decide) ?_
                exact J193_49 ((0 : Int64)) (by rw [if_neg (show ¬ ((x5 &&& (1 : Int32)) = (0 : Int32)) from (by assumption))])
            refine w_ifL_eq X13 hx (hb hby at_114) (pf := 117) (pt := 123) rfl (by decide) (by decide) (fun hc114 => ?_) (fun hc114 => ?_)
            · refine w_iload X13 hx (hb hby at_123) (pc' := 125) rfl rfl ?_
              refine w_iconst (v := 2) X13 hx (hb hby at_125) (pc' := 126) rfl rfl ?_
              have hf126 : ¬ ((3 : Int32) < (2 : Int32)) := (by decide)
              refine w_icmp_lt X13 hx (hb hby at_126) (pf := 129) (pt := 144) rfl (by decide) (by decide) (fun hc => absurd hc hf126) (fun hc126 => ?_)
              refine w_aload X13 hx (hb hby at_129) (pc' := 131) rfl rfl rfl ?_
              refine w_iconst (v := 1) X13 hx (hb hby at_131) (pc' := 132) rfl rfl ?_
              refine w_laload X13 hx hZ e13 V13 (v := v5) (by decide) rfl (hb hby at_132) (pc' := 133) rfl ?_
              refine w_lconst (v := 0) X13 hx (hb hby at_133) (pc' := 134) rfl rfl ?_
              refine w_lcmp X13 hx (hb hby at_134) (pc' := 135) rfl ?_
              refine w_ifL_eq X13 hx (hb hby at_135) (pf := 138) (pt := 144) rfl (by decide) (by decide) (fun hc135 => ?_) (fun hc135 => ?_)
              · refine w_iload X13 hx (hb hby at_144) (pc' := 146) rfl rfl ?_
                refine w_iconst (v := 1) X13 hx (hb hby at_146) (pc' := 147) rfl rfl ?_
                have hf147 : ¬ ((3 : Int32) < (1 : Int32)) := (by decide)
                refine w_icmp_lt X13 hx (hb hby at_147) (pf := 150) (pt := 165) rfl (by decide) (by decide) (fun hc => absurd hc hf147) (fun hc147 => ?_)
                refine w_aload X13 hx (hb hby at_150) (pc' := 152) rfl rfl rfl ?_
                refine w_iconst (v := 0) X13 hx (hb hby at_152) (pc' := 153) rfl rfl ?_
                refine w_laload X13 hx hZ e13 V13 (v := v2) (by decide) rfl (hb hby at_153) (pc' := 154) rfl ?_
                refine w_lconst (v := 0) X13 hx (hb hby at_154) (pc' := 155) rfl rfl ?_
                refine w_lcmp X13 hx (hb hby at_155) (pc' := 156) rfl ?_
                refine w_ifL_eq X13 hx (hb hby at_156) (pf := 159) (pt := 165) rfl (by decide) (by decide) (fun hc156 => ?_) (fun hc156 => ?_)
                · refine w_iconst (v := 0) X13 hx (hb hby at_165) (pc' := 166) rfl rfl ?_
                  refine w_istore (Ls' := #[.val (.long x0), .second, .val (.long x1), .second, .val (.long x2), .second, .val (.long x3), .second, .val (.int x4), .val (.int x5), .val (.ref b1), .val (.int (3 : Int32)), .val (.int (0 : Int32)), .unset, .unset]) X13 hx (hb hby at_166) (pc' := 168) rfl rfl ?_
                  exact J168_46 ((0 : Int32)) (by rw [if_pos (show v8 = (0 : Int64) from (by assumption)), if_pos (show v5 = (0 : Int64) from (by assumption)), if_pos (show v2 = (0 : Int64) from (by assumption))])
                · refine w_iconst (v := 1) X13 hx (hb hby at_159) (pc' := 160) rfl rfl ?_
                  refine w_istore (Ls' := #[.val (.long x0), .second, .val (.long x1), .second, .val (.long x2), .second, .val (.long x3), .second, .val (.int x4), .val (.int x5), .val (.ref b1), .val (.int (3 : Int32)), .val (.int (1 : Int32)), .unset, .unset]) X13 hx (hb hby at_160) (pc' := 162) rfl rfl ?_
                  refine w_goto X13 hx (hb hby at_162) (pc' := 168) (by decide) (by decide) ?_
                  exact J168_46 ((1 : Int32)) (by rw [if_pos (show v8 = (0 : Int64) from (by assumption)), if_pos (show v5 = (0 : Int64) from (by assumption)), if_neg (show ¬ (v2 = (0 : Int64)) from (by assumption))])
              · refine w_iconst (v := 2) X13 hx (hb hby at_138) (pc' := 139) rfl rfl ?_
                refine w_istore (Ls' := #[.val (.long x0), .second, .val (.long x1), .second, .val (.long x2), .second, .val (.long x3), .second, .val (.int x4), .val (.int x5), .val (.ref b1), .val (.int (3 : Int32)), .val (.int (2 : Int32)), .unset, .unset]) X13 hx (hb hby at_139) (pc' := 141) rfl rfl ?_
                refine w_goto X13 hx (hb hby at_141) (pc' := 168) (by decide) (by decide) ?_
                exact J168_46 ((2 : Int32)) (by rw [if_pos (show v8 = (0 : Int64) from (by assumption)), if_neg (show ¬ (v5 = (0 : Int64)) from (by assumption))])
            · refine w_iconst (v := 3) X13 hx (hb hby at_117) (pc' := 118) rfl rfl ?_
              refine w_istore (Ls' := #[.val (.long x0), .second, .val (.long x1), .second, .val (.long x2), .second, .val (.long x3), .second, .val (.int x4), .val (.int x5), .val (.ref b1), .val (.int (3 : Int32)), .val (.int (3 : Int32)), .unset, .unset]) X13 hx (hb hby at_118) (pc' := 120) rfl rfl ?_
              refine w_goto X13 hx (hb hby at_120) (pc' := 168) (by decide) (by decide) ?_
              exact J168_46 ((3 : Int32)) (by rw [if_neg (show ¬ (v8 = (0 : Int64)) from (by assumption))])
          · refine w_iload X13 hx (hb hby at_81) (pc' := 83) rfl rfl ?_
            refine w_iconst (v := 4) X13 hx (hb hby at_83) (pc' := 84) rfl rfl ?_
            have hf84 : ¬ ((4 : Int32) < (4 : Int32)) := (by decide)
            refine w_icmp_lt X13 hx (hb hby at_84) (pf := 87) (pt := 102) rfl (by decide) (by decide) (fun hc => absurd hc hf84) (fun hc84 => ?_)
            refine w_aload X13 hx (hb hby at_87) (pc' := 89) rfl rfl rfl ?_
            refine w_iconst (v := 3) X13 hx (hb hby at_89) (pc' := 90) rfl rfl ?_
            refine w_laload X13 hx hZ e13 V13 (v := v11) (by decide) rfl (hb hby at_90) (pc' := 91) rfl ?_
            refine w_lconst (v := 0) X13 hx (hb hby at_91) (pc' := 92) rfl rfl ?_
            refine w_lcmp X13 hx (hb hby at_92) (pc' := 93) rfl ?_
            have J168_57 : ∀ (v56 : Int32), v56 = (if v11 = (0 : Int64) then (if v8 = (0 : Int64) then (if v5 = (0 : Int64) then (if v2 = (0 : Int64) then (0 : Int32) else (1 : Int32)) else (2 : Int32)) else (3 : Int32)) else (4 : Int32)) → Go p e below s room_1.cells room_1.slots (QL (some (.int 1)) n0) T13 (mkF m 168 #[.val (.long x0), .second, .val (.long x1), .second, .val (.long x2), .second, .val (.long x3), .second, .val (.int x4), .val (.int x5), .val (.ref b1), .val (.int (4 : Int32)), .val (.int v56), .unset, .unset] []) := by
              intro v56 hv56
              refine w_aload X13 hx (hb hby at_168) (pc' := 170) rfl rfl rfl ?_
              refine w_iload X13 hx (hb hby at_170) (pc' := 172) rfl rfl ?_
              refine w_callS (argsL := [(.ref b1), (.int (4 : Int32))]) (rest := []) X13 hx hZ hown e13 (rm1 l Z a0 hw b1 (4 : Int32) h13 n0 [v2, v5, v8, v11] 4 V13 (by show 4 ≤ 4; decide) rfl) (hw _ (List.mem_of_getElem? (i := 2) rfl)) (hw _ (List.mem_of_getElem? (i := 3) rfl)) (hw _ (List.mem_of_getElem? (i := 4) rfl)) (hw _ (List.mem_of_getElem? (i := 5) rfl)) (by decide) (by decide) (W := 0) (by decide) (by decide) (by decide) (by rw [hml]; rfl) (lenOf pd_0 rfl) (Nat.le_refl _) rfl (hb hby at_172) (pc' := 175) rfl (fun T58 L58 v58 X58 hQ58 => ?_)
              obtain ⟨rfl, N58q, e58⟩ := hQ58
              have N58 := Fr.app N13 N58q
              have X58 : Stand p l e room_1 s m _ below meth c T58 _ 1 4 := X58
              show Go p e below s room_1.cells room_1.slots (QL (some (.int 1)) n0) T58 (mkF m 175 #[.val (.long x0), .second, .val (.long x1), .second, .val (.long x2), .second, .val (.long x3), .second, .val (.int x4), .val (.int x5), .val (.ref b1), .val (.int (4 : Int32)), .val (.int v56), .unset, .unset] [(.int (own_used [v2, v5, v8, v11] 4).toInt32)])
              refine w_istore (Ls' := #[.val (.long x0), .second, .val (.long x1), .second, .val (.long x2), .second, .val (.long x3), .second, .val (.int x4), .val (.int x5), .val (.ref b1), .val (.int (4 : Int32)), .val (.int v56), .val (.int (own_used [v2, v5, v8, v11] 4).toInt32), .unset]) X58 hx (hb hby at_175) (pc' := 177) rfl rfl ?_
              refine w_aload X58 hx (hb hby at_177) (pc' := 179) rfl rfl rfl ?_
              refine w_iconst (v := 0) X58 hx (hb hby at_179) (pc' := 180) rfl rfl ?_
              refine w_laload X58 hx hZ e58 V13 (v := v2) (by decide) rfl (hb hby at_180) (pc' := 181) rfl ?_
              refine w_iload X58 hx (hb hby at_181) (pc' := 183) rfl rfl ?_
              refine w_iconst (v := 1) X58 hx (hb hby at_183) (pc' := 184) rfl rfl ?_
              refine w_iand X58 hx (hb hby at_184) (pc' := 185) rfl ?_
              have J193_60 : ∀ (v59 : Int64), v59 = (if (x5 &&& (1 : Int32)) = (0 : Int32) then x0 else (0 : Int64)) → Go p e below s room_1.cells room_1.slots (QL (some (.int 1)) n0) T58 (mkF m 193 #[.val (.long x0), .second, .val (.long x1), .second, .val (.long x2), .second, .val (.long x3), .second, .val (.int x4), .val (.int x5), .val (.ref b1), .val (.int (4 : Int32)), .val (.int v56), .val (.int (own_used [v2, v5, v8, v11] 4).toInt32), .unset] [(.long v59), (.long v2)]) := by
                intro v59 hv59
                refine w_lcmp X58 hx (hb hby at_193) (pc' := 194) rfl ?_
                have hf194 : v2 = v59 := hv2.trans hv59.symm
                refine w_ifL_ne X58 hx (hb hby at_194) (pf := 197) (pt := 264) rfl (by decide) (by decide) (fun hc => absurd hf194 hc) (fun hc194 => ?_)
                refine w_aload X58 hx (hb hby at_197) (pc' := 199) rfl rfl rfl ?_
                refine w_iconst (v := 1) X58 hx (hb hby at_199) (pc' := 200) rfl rfl ?_
                refine w_laload X58 hx hZ e58 V13 (v := v5) (by decide) rfl (hb hby at_200) (pc' := 201) rfl ?_
                refine w_iload X58 hx (hb hby at_201) (pc' := 203) rfl rfl ?_
                refine w_iconst (v := 2) X58 hx (hb hby at_203) (pc' := 204) rfl rfl ?_
                refine w_iand X58 hx (hb hby at_204) (pc' := 205) rfl ?_
                have J213_62 : ∀ (v61 : Int64), v61 = (if (x5 &&& (2 : Int32)) = (0 : Int32) then x1 else (0 : Int64)) → Go p e below s room_1.cells room_1.slots (QL (some (.int 1)) n0) T58 (mkF m 213 #[.val (.long x0), .second, .val (.long x1), .second, .val (.long x2), .second, .val (.long x3), .second, .val (.int x4), .val (.int x5), .val (.ref b1), .val (.int (4 : Int32)), .val (.int v56), .val (.int (own_used [v2, v5, v8, v11] 4).toInt32), .unset] [(.long v61), (.long v5)]) := by
                  intro v61 hv61
                  refine w_lcmp X58 hx (hb hby at_213) (pc' := 214) rfl ?_
                  have hf214 : v5 = v61 := hv5.trans hv61.symm
                  refine w_ifL_ne X58 hx (hb hby at_214) (pf := 217) (pt := 264) rfl (by decide) (by decide) (fun hc => absurd hf214 hc) (fun hc214 => ?_)
                  refine w_aload X58 hx (hb hby at_217) (pc' := 219) rfl rfl rfl ?_
                  refine w_iconst (v := 2) X58 hx (hb hby at_219) (pc' := 220) rfl rfl ?_
                  refine w_laload X58 hx hZ e58 V13 (v := v8) (by decide) rfl (hb hby at_220) (pc' := 221) rfl ?_
                  refine w_iload X58 hx (hb hby at_221) (pc' := 223) rfl rfl ?_
                  refine w_iconst (v := 4) X58 hx (hb hby at_223) (pc' := 224) rfl rfl ?_
                  refine w_iand X58 hx (hb hby at_224) (pc' := 225) rfl ?_
                  have J234_64 : ∀ (v63 : Int64), v63 = (if (x5 &&& (4 : Int32)) = (0 : Int32) then x2 else (0 : Int64)) → Go p e below s room_1.cells room_1.slots (QL (some (.int 1)) n0) T58 (mkF m 234 #[.val (.long x0), .second, .val (.long x1), .second, .val (.long x2), .second, .val (.long x3), .second, .val (.int x4), .val (.int x5), .val (.ref b1), .val (.int (4 : Int32)), .val (.int v56), .val (.int (own_used [v2, v5, v8, v11] 4).toInt32), .unset] [(.long v63), (.long v8)]) := by
                    intro v63 hv63
                    refine w_lcmp X58 hx (hb hby at_234) (pc' := 235) rfl ?_
                    have hf235 : v8 = v63 := hv8.trans hv63.symm
                    refine w_ifL_ne X58 hx (hb hby at_235) (pf := 238) (pt := 264) rfl (by decide) (by decide) (fun hc => absurd hf235 hc) (fun hc235 => ?_)
                    refine w_aload X58 hx (hb hby at_238) (pc' := 240) rfl rfl rfl ?_
                    refine w_iconst (v := 3) X58 hx (hb hby at_240) (pc' := 241) rfl rfl ?_
                    refine w_laload X58 hx hZ e58 V13 (v := v11) (by decide) rfl (hb hby at_241) (pc' := 242) rfl ?_
                    refine w_iload X58 hx (hb hby at_242) (pc' := 244) rfl rfl ?_
                    refine w_bipush (v := 8) X58 hx (hb hby at_244) (pc' := 246) rfl rfl ?_
                    refine w_iand X58 hx (hb hby at_246) (pc' := 247) rfl ?_
                    have J256_66 : ∀ (v65 : Int64), v65 = (if (x5 &&& (8 : Int32)) = (0 : Int32) then x3 else (0 : Int64)) → Go p e below s room_1.cells room_1.slots (QL (some (.int 1)) n0) T58 (mkF m 256 #[.val (.long x0), .second, .val (.long x1), .second, .val (.long x2), .second, .val (.long x3), .second, .val (.int x4), .val (.int x5), .val (.ref b1), .val (.int (4 : Int32)), .val (.int v56), .val (.int (own_used [v2, v5, v8, v11] 4).toInt32), .unset] [(.long v65), (.long v11)]) := by
                      intro v65 hv65
                      refine w_lcmp X58 hx (hb hby at_256) (pc' := 257) rfl ?_
                      have hf257 : v11 = v65 := hv11.trans hv65.symm
                      refine w_ifL_ne X58 hx (hb hby at_257) (pf := 260) (pt := 264) rfl (by decide) (by decide) (fun hc => absurd hf257 hc) (fun hc257 => ?_)
                      refine w_iconst (v := 1) X58 hx (hb hby at_260) (pc' := 261) rfl rfl ?_
                      refine w_goto X58 hx (hb hby at_261) (pc' := 265) (by decide) (by decide) ?_
                      refine w_istore (Ls' := #[.val (.long x0), .second, .val (.long x1), .second, .val (.long x2), .second, .val (.long x3), .second, .val (.int x4), .val (.int x5), .val (.ref b1), .val (.int (4 : Int32)), .val (.int v56), .val (.int (own_used [v2, v5, v8, v11] 4).toInt32), .val (.int (1 : Int32))]) X58 hx (hb hby at_265) (pc' := 267) rfl rfl ?_
                      refine w_iload X58 hx (hb hby at_267) (pc' := 269) rfl rfl ?_
                      refine w_iload X58 hx (hb hby at_269) (pc' := 271) rfl rfl ?_
                      have hf271 : (own_used [v2, v5, v8, v11] 4).toInt32 = v56 := (own_law.2.2.2.2).trans hv56.symm
                      refine w_icmp_ne X58 hx (hb hby at_271) (pf := 274) (pt := 283) rfl (by decide) (by decide) (fun hc => absurd hf271 hc) (fun hc271 => ?_)
                      refine w_iload X58 hx (hb hby at_274) (pc' := 276) rfl rfl ?_
                      have hf276 : ¬ ((1 : Int32) = (0 : Int32)) := (by decide)
                      refine w_if_eq X58 hx (hb hby at_276) (pf := 279) (pt := 283) rfl (by decide) (by decide) (fun hc => absurd hc hf276) (fun hc276 => ?_)
                      refine w_iconst (v := 1) X58 hx (hb hby at_279) (pc' := 280) rfl rfl ?_
                      refine w_goto X58 hx (hb hby at_280) (pc' := 284) (by decide) (by decide) ?_
                      exact w_retZ X58 hx hret hlk (hb hby at_284) (by decide) (by decide) ⟨rfl, N58⟩
                    refine w_if_eq X58 hx (hb hby at_247) (pf := 250) (pt := 254) rfl (by decide) (by decide) (fun hc247 => ?_) (fun hc247 => ?_)
                    · refine w_lload X58 hx (hb hby at_254) (pc' := 256) rfl rfl ?_
                      exact J256_66 (x3) (by rw [if_pos (show (x5 &&& (8 : Int32)) = (0 : Int32) from (by assumption))])
                    · refine w_lconst (v := 0) X58 hx (hb hby at_250) (pc' := 251) rfl rfl ?_
                      refine w_goto X58 hx (hb hby at_251) (pc' := 256) (by decide) (by decide) ?_
                      exact J256_66 ((0 : Int64)) (by rw [if_neg (show ¬ ((x5 &&& (8 : Int32)) = (0 : Int32)) from (by assumption))])
                  refine w_if_eq X58 hx (hb hby at_225) (pf := 228) (pt := 232) rfl (by decide) (by decide) (fun hc225 => ?_) (fun hc225 => ?_)
                  · refine w_lload X58 hx (hb hby at_232) (pc' := 234) rfl rfl ?_
                    exact J234_64 (x2) (by rw [if_pos (show (x5 &&& (4 : Int32)) = (0 : Int32) from (by assumption))])
                  · refine w_lconst (v := 0) X58 hx (hb hby at_228) (pc' := 229) rfl rfl ?_
                    refine w_goto X58 hx (hb hby at_229) (pc' := 234) (by decide) (by decide) ?_
                    exact J234_64 ((0 : Int64)) (by rw [if_neg (show ¬ ((x5 &&& (4 : Int32)) = (0 : Int32)) from (by assumption))])
                refine w_if_eq X58 hx (hb hby at_205) (pf := 208) (pt := 212) rfl (by decide) (by decide) (fun hc205 => ?_) (fun hc205 => ?_)
                · refine w_lloadN X58 hx (hb hby at_212) (pc' := 213) rfl rfl ?_
                  exact J213_62 (x1) (by rw [if_pos (show (x5 &&& (2 : Int32)) = (0 : Int32) from (by assumption))])
                · refine w_lconst (v := 0) X58 hx (hb hby at_208) (pc' := 209) rfl rfl ?_
                  refine w_goto X58 hx (hb hby at_209) (pc' := 213) (by decide) (by decide) ?_
                  exact J213_62 ((0 : Int64)) (by rw [if_neg (show ¬ ((x5 &&& (2 : Int32)) = (0 : Int32)) from (by assumption))])
              refine w_if_eq X58 hx (hb hby at_185) (pf := 188) (pt := 192) rfl (by decide) (by decide) (fun hc185 => ?_) (fun hc185 => ?_)
              · refine w_lloadN X58 hx (hb hby at_192) (pc' := 193) rfl rfl ?_
                exact J193_60 (x0) (by rw [if_pos (show (x5 &&& (1 : Int32)) = (0 : Int32) from (by assumption))])
              · refine w_lconst (v := 0) X58 hx (hb hby at_188) (pc' := 189) rfl rfl ?_
                refine w_goto X58 hx (hb hby at_189) (pc' := 193) (by decide) (by decide) ?_
                exact J193_60 ((0 : Int64)) (by rw [if_neg (show ¬ ((x5 &&& (1 : Int32)) = (0 : Int32)) from (by assumption))])
            refine w_ifL_eq X13 hx (hb hby at_93) (pf := 96) (pt := 102) rfl (by decide) (by decide) (fun hc93 => ?_) (fun hc93 => ?_)
            · refine w_iload X13 hx (hb hby at_102) (pc' := 104) rfl rfl ?_
              refine w_iconst (v := 3) X13 hx (hb hby at_104) (pc' := 105) rfl rfl ?_
              have hf105 : ¬ ((4 : Int32) < (3 : Int32)) := (by decide)
              refine w_icmp_lt X13 hx (hb hby at_105) (pf := 108) (pt := 123) rfl (by decide) (by decide) (fun hc => absurd hc hf105) (fun hc105 => ?_)
              refine w_aload X13 hx (hb hby at_108) (pc' := 110) rfl rfl rfl ?_
              refine w_iconst (v := 2) X13 hx (hb hby at_110) (pc' := 111) rfl rfl ?_
              refine w_laload X13 hx hZ e13 V13 (v := v8) (by decide) rfl (hb hby at_111) (pc' := 112) rfl ?_
              refine w_lconst (v := 0) X13 hx (hb hby at_112) (pc' := 113) rfl rfl ?_
              refine w_lcmp X13 hx (hb hby at_113) (pc' := 114) rfl ?_
              refine w_ifL_eq X13 hx (hb hby at_114) (pf := 117) (pt := 123) rfl (by decide) (by decide) (fun hc114 => ?_) (fun hc114 => ?_)
              · refine w_iload X13 hx (hb hby at_123) (pc' := 125) rfl rfl ?_
                refine w_iconst (v := 2) X13 hx (hb hby at_125) (pc' := 126) rfl rfl ?_
                have hf126 : ¬ ((4 : Int32) < (2 : Int32)) := (by decide)
                refine w_icmp_lt X13 hx (hb hby at_126) (pf := 129) (pt := 144) rfl (by decide) (by decide) (fun hc => absurd hc hf126) (fun hc126 => ?_)
                refine w_aload X13 hx (hb hby at_129) (pc' := 131) rfl rfl rfl ?_
                refine w_iconst (v := 1) X13 hx (hb hby at_131) (pc' := 132) rfl rfl ?_
                refine w_laload X13 hx hZ e13 V13 (v := v5) (by decide) rfl (hb hby at_132) (pc' := 133) rfl ?_
                refine w_lconst (v := 0) X13 hx (hb hby at_133) (pc' := 134) rfl rfl ?_
                refine w_lcmp X13 hx (hb hby at_134) (pc' := 135) rfl ?_
                refine w_ifL_eq X13 hx (hb hby at_135) (pf := 138) (pt := 144) rfl (by decide) (by decide) (fun hc135 => ?_) (fun hc135 => ?_)
                · refine w_iload X13 hx (hb hby at_144) (pc' := 146) rfl rfl ?_
                  refine w_iconst (v := 1) X13 hx (hb hby at_146) (pc' := 147) rfl rfl ?_
                  have hf147 : ¬ ((4 : Int32) < (1 : Int32)) := (by decide)
                  refine w_icmp_lt X13 hx (hb hby at_147) (pf := 150) (pt := 165) rfl (by decide) (by decide) (fun hc => absurd hc hf147) (fun hc147 => ?_)
                  refine w_aload X13 hx (hb hby at_150) (pc' := 152) rfl rfl rfl ?_
                  refine w_iconst (v := 0) X13 hx (hb hby at_152) (pc' := 153) rfl rfl ?_
                  refine w_laload X13 hx hZ e13 V13 (v := v2) (by decide) rfl (hb hby at_153) (pc' := 154) rfl ?_
                  refine w_lconst (v := 0) X13 hx (hb hby at_154) (pc' := 155) rfl rfl ?_
                  refine w_lcmp X13 hx (hb hby at_155) (pc' := 156) rfl ?_
                  refine w_ifL_eq X13 hx (hb hby at_156) (pf := 159) (pt := 165) rfl (by decide) (by decide) (fun hc156 => ?_) (fun hc156 => ?_)
                  · refine w_iconst (v := 0) X13 hx (hb hby at_165) (pc' := 166) rfl rfl ?_
                    refine w_istore (Ls' := #[.val (.long x0), .second, .val (.long x1), .second, .val (.long x2), .second, .val (.long x3), .second, .val (.int x4), .val (.int x5), .val (.ref b1), .val (.int (4 : Int32)), .val (.int (0 : Int32)), .unset, .unset]) X13 hx (hb hby at_166) (pc' := 168) rfl rfl ?_
                    exact J168_57 ((0 : Int32)) (by rw [if_pos (show v11 = (0 : Int64) from (by assumption)), if_pos (show v8 = (0 : Int64) from (by assumption)), if_pos (show v5 = (0 : Int64) from (by assumption)), if_pos (show v2 = (0 : Int64) from (by assumption))])
                  · refine w_iconst (v := 1) X13 hx (hb hby at_159) (pc' := 160) rfl rfl ?_
                    refine w_istore (Ls' := #[.val (.long x0), .second, .val (.long x1), .second, .val (.long x2), .second, .val (.long x3), .second, .val (.int x4), .val (.int x5), .val (.ref b1), .val (.int (4 : Int32)), .val (.int (1 : Int32)), .unset, .unset]) X13 hx (hb hby at_160) (pc' := 162) rfl rfl ?_
                    refine w_goto X13 hx (hb hby at_162) (pc' := 168) (by decide) (by decide) ?_
                    exact J168_57 ((1 : Int32)) (by rw [if_pos (show v11 = (0 : Int64) from (by assumption)), if_pos (show v8 = (0 : Int64) from (by assumption)), if_pos (show v5 = (0 : Int64) from (by assumption)), if_neg (show ¬ (v2 = (0 : Int64)) from (by assumption))])
                · refine w_iconst (v := 2) X13 hx (hb hby at_138) (pc' := 139) rfl rfl ?_
                  refine w_istore (Ls' := #[.val (.long x0), .second, .val (.long x1), .second, .val (.long x2), .second, .val (.long x3), .second, .val (.int x4), .val (.int x5), .val (.ref b1), .val (.int (4 : Int32)), .val (.int (2 : Int32)), .unset, .unset]) X13 hx (hb hby at_139) (pc' := 141) rfl rfl ?_
                  refine w_goto X13 hx (hb hby at_141) (pc' := 168) (by decide) (by decide) ?_
                  exact J168_57 ((2 : Int32)) (by rw [if_pos (show v11 = (0 : Int64) from (by assumption)), if_pos (show v8 = (0 : Int64) from (by assumption)), if_neg (show ¬ (v5 = (0 : Int64)) from (by assumption))])
              · refine w_iconst (v := 3) X13 hx (hb hby at_117) (pc' := 118) rfl rfl ?_
                refine w_istore (Ls' := #[.val (.long x0), .second, .val (.long x1), .second, .val (.long x2), .second, .val (.long x3), .second, .val (.int x4), .val (.int x5), .val (.ref b1), .val (.int (4 : Int32)), .val (.int (3 : Int32)), .unset, .unset]) X13 hx (hb hby at_118) (pc' := 120) rfl rfl ?_
                refine w_goto X13 hx (hb hby at_120) (pc' := 168) (by decide) (by decide) ?_
                exact J168_57 ((3 : Int32)) (by rw [if_pos (show v11 = (0 : Int64) from (by assumption)), if_neg (show ¬ (v8 = (0 : Int64)) from (by assumption))])
            · refine w_iconst (v := 4) X13 hx (hb hby at_96) (pc' := 97) rfl rfl ?_
              refine w_istore (Ls' := #[.val (.long x0), .second, .val (.long x1), .second, .val (.long x2), .second, .val (.long x3), .second, .val (.int x4), .val (.int x5), .val (.ref b1), .val (.int (4 : Int32)), .val (.int (4 : Int32)), .unset, .unset]) X13 hx (hb hby at_97) (pc' := 99) rfl rfl ?_
              refine w_goto X13 hx (hb hby at_99) (pc' := 168) (by decide) (by decide) ?_
              exact J168_57 ((4 : Int32)) (by rw [if_neg (show ¬ (v11 = (0 : Int64)) from (by assumption))])
        refine w_if_eq X10 hx (hb hby at_62) (pf := 65) (pt := 69) rfl (by decide) (by decide) (fun hc62 => ?_) (fun hc62 => ?_)
        · refine w_lload X10 hx (hb hby at_69) (pc' := 71) rfl rfl ?_
          exact J71_12 (x3) (by rw [if_pos (show (x5 &&& (8 : Int32)) = (0 : Int32) from (by assumption))])
        · refine w_lconst (v := 0) X10 hx (hb hby at_65) (pc' := 66) rfl rfl ?_
          refine w_goto X10 hx (hb hby at_66) (pc' := 71) (by decide) (by decide) ?_
          exact J71_12 ((0 : Int64)) (by rw [if_neg (show ¬ ((x5 &&& (8 : Int32)) = (0 : Int32)) from (by assumption))])
      refine w_if_eq X7 hx (hb hby at_44) (pf := 47) (pt := 51) rfl (by decide) (by decide) (fun hc44 => ?_) (fun hc44 => ?_)
      · refine w_lload X7 hx (hb hby at_51) (pc' := 53) rfl rfl ?_
        exact J53_9 (x2) (by rw [if_pos (show (x5 &&& (4 : Int32)) = (0 : Int32) from (by assumption))])
      · refine w_lconst (v := 0) X7 hx (hb hby at_47) (pc' := 48) rfl rfl ?_
        refine w_goto X7 hx (hb hby at_48) (pc' := 53) (by decide) (by decide) ?_
        exact J53_9 ((0 : Int64)) (by rw [if_neg (show ¬ ((x5 &&& (4 : Int32)) = (0 : Int32)) from (by assumption))])
    refine w_if_eq X4 hx (hb hby at_28) (pf := 31) (pt := 35) rfl (by decide) (by decide) (fun hc28 => ?_) (fun hc28 => ?_)
    · refine w_lloadN X4 hx (hb hby at_35) (pc' := 36) rfl rfl ?_
      exact J36_6 (x1) (by rw [if_pos (show (x5 &&& (2 : Int32)) = (0 : Int32) from (by assumption))])
    · refine w_lconst (v := 0) X4 hx (hb hby at_31) (pc' := 32) rfl rfl ?_
      refine w_goto X4 hx (hb hby at_32) (pc' := 36) (by decide) (by decide) ?_
      exact J36_6 ((0 : Int64)) (by rw [if_neg (show ¬ ((x5 &&& (2 : Int32)) = (0 : Int32)) from (by assumption))])
  refine w_if_eq X1 hx (hb hby at_12) (pf := 15) (pt := 19) rfl (by decide) (by decide) (fun hc12 => ?_) (fun hc12 => ?_)
  · refine w_lloadN X1 hx (hb hby at_19) (pc' := 20) rfl rfl ?_
    exact J20_3 (x0) (by rw [if_pos (show (x5 &&& (1 : Int32)) = (0 : Int32) from (by assumption))])
  · refine w_lconst (v := 0) X1 hx (hb hby at_15) (pc' := 16) rfl rfl ?_
    refine w_goto X1 hx (hb hby at_16) (pc' := 20) (by decide) (by decide) ?_
    exact J20_3 ((0 : Int64)) (by rw [if_neg (show ¬ ((x5 &&& (1 : Int32)) = (0 : Int32)) from (by assumption))])
set_option maxRecDepth 65536 in
set_option maxHeartbeats 40000000 in
theorem comes_1 {Post : Tables → Env → Array Value → State → Outcome → State → Prop} (hpost : ∀ tb e args s v u, (limb_1_1.after args s (.returned v) u = true ∧ limb_1_2.after args s (.returned v) u = true ∧ True) → FrameEnd s (.returned v) u (Jvm.fieldLocs frame_1_writes args s ++ Jvm.arrayLocs frame_1_arrays args s ++ Jvm.staticLocs frame_1_statics s) 16 128 → Post tb e args s (.returned v) u) :
    ArmFor flags0 classFile x code maxLocals ret World_1 tables_1 room_1 Calls_1 rest_1 Pre_1 Post := by
  intro l hfl _ _ p e ha hc hk s m args below hf hA hF happ hP
  obtain ⟨hcalls, hrest, hpre⟩ := hP
  obtain ⟨-, -, -, hnamed, -, -, -, hat⟩ := (Spec.applies_iff hf).mp happ
  obtain ⟨hg, hn⟩ := and_e (Cond.before_iff.mp (show (Jvm.Cond.and given_1 narrow_1).before args s = true from hpre))
  obtain ⟨g1, g2⟩ := and_e hg
  obtain ⟨g3, g4⟩ := and_e g2
  obtain ⟨g5, g6⟩ := and_e g4
  obtain ⟨g7, g8⟩ := and_e g6
  obtain ⟨g9, g10⟩ := and_e g8
  obtain ⟨g11, g12⟩ := and_e g10
  obtain ⟨w0, w1, w2, w3, w4, w5, rfl⟩ : ∃ w0 w1 w2 w3 w4 w5 : Value, args = #[w0, w1, w2, w3, w4, w5] := by
    have hs : args.size = 6 := by simpa [Cond.value, given_1] using g1
    obtain ⟨L⟩ := args
    match L, hs with
    | [w0, w1, w2, w3, w4, w5], _ => exact ⟨w0, w1, w2, w3, w4, w5, rfl⟩
  have hw := fun d (hd : d ∈ tables_1) => atoms_spec (ws := Jvm.Cond.code x code maxLocals ret :: tables_1) hat d (List.mem_cons_of_mem _ hd)
  obtain ⟨i0, ei0⟩ := isL_v g3
  obtain rfl : w0 = (.long i0) := Option.some.inj ei0
  obtain ⟨i1, ei1⟩ := isL_v g5
  obtain rfl : w1 = (.long i1) := Option.some.inj ei1
  obtain ⟨i2, ei2⟩ := isL_v g7
  obtain rfl : w2 = (.long i2) := Option.some.inj ei2
  obtain ⟨i3, ei3⟩ := isL_v g9
  obtain rfl : w3 = (.long i3) := Option.some.inj ei3
  obtain ⟨i4, ei4⟩ := is_v g11
  obtain rfl : w4 = (.int i4) := Option.some.inj ei4
  obtain ⟨i5, ei5⟩ := is_v g12
  obtain rfl : w5 = (.int i5) := Option.some.inj ei5
  have C := rm0 l s _ hw i0 i1 i2 i3 i4 i5 s.heap s.heap.size (Nat.le_refl _)
  obtain ⟨n, o, h1, h2, h3, v, L, rfl, ⟨rfl, N⟩, hq⟩ := C tables_1 p e ha hc hk s m _ below hf ((Spec.applies_iff_loose hf).mp happ).1 ⟨rfl, State.Warmed39.refl s, rfl⟩ trivial
  refine ⟨n, _, h1, h2, h3, hpost _ _ _ _ _ _ ⟨Cond.after_iff.mpr rfl, Cond.after_iff.mpr (eq_i res_at (Term.int_eval (1)) rfl), trivial⟩ ⟨hq.1, hq.2.1, (hq.2.2.sift fun y hy => Or.inr (N y hy)).mono (by decide) (by decide)⟩⟩
theorem main_1_1 : Claimed_1_1 := comes_1 fun _ _ _ _ _ _ h hF => ⟨h.1, hF⟩
theorem main_1_2 : Claimed_1_2 := comes_1 fun _ _ _ _ _ _ h hF => ⟨h.2.1, hF⟩
end Jvm.Pilot.@@N@@
namespace Jvm.Pilot.@@N@@
open Jvm Jvm.ClassFile Sem Op Lib Jvm.Free Jvm.Stand Jvm.Pilot.@@N@@.Jvm.D
/-! MADE BY PROGRAM (witnessworld.py) out of the Statement's table words and the real class files: 11 classes; the members and pool entries that the words name. The judged class is class 1, her method 1. -/
namespace start1
open Jvm.ClassFile
def u (s : String) : CpInfo := .utf8 (stringToUtf16 s)
/-- a pool by its gaps: so many unusable entries, then the entry; so many at the end -/
def gap : Nat → List CpInfo → List CpInfo
  | 0, r => r
  | n + 1, r => .unusable :: gap n r
def poolList (es : List (Nat × CpInfo)) (last : Nat) : List CpInfo := es.foldr (fun e r => gap e.1 (e.2 :: r)) (gap last [])
def pool (es : List (Nat × CpInfo)) (last : Nat) : Array CpInfo := ⟨poolList es last⟩
def fileOf (pool : Array CpInfo) (this : Nat) (attrs : Array Attribute := #[]) (ms : Array MethodInfo := #[]) (fl : Nat := 33) (sup : Nat := 0) (ifs : Array Nat := #[]) (fds : Array FieldInfo := #[]) : ClassFile where
  minorVersion := 0
  majorVersion := 65
  constantPool := pool
  accessFlags := fl
  thisClass := this
  superClass := sup
  interfaces := ifs
  fields := fds
  methods := ms
  attributes := attrs
def plain (name : String) (sup : Option ClassId) : Class where
  name := name
  kind := .ordinary
  loader := none
  accessFlags := 33
  super := sup
  interfaces := #[]
  cf := none
  fields := #[]
  methods := #[]
  instanceTypes := #[]
  staticTypes := #[]
  resolved := #[]
  callSites := []
  init := .initialized
  statics := none
  mirror := none

def pool0 : Array CpInfo := pool [(5, u "<init>"), (0, u "()V"), (1, .class_ 10), (1, u "java/lang/Object")] 113

def k0m0 : Method := { name := "<init>", desc := "()V", sig := { parameters := [], returnType := none }, accessFlags := 1, code := none }
/-- java/lang/Object -/
def k0 : Class := { plain "java/lang/Object" none with
  accessFlags := 33
  interfaces := #[]
  cf := some (fileOf pool0 8 #[] #[{ accessFlags := 1, nameIndex := 5, descriptorIndex := 6, attributes := #[] }] 33 0 #[] #[])
  fields := #[]
  methods := #[k0m0]
  instanceTypes := #[]
  staticTypes := #[]
  resolved := Array.replicate 124 none
  statics := none }

def pool1 : Array CpInfo := pool [(2, .class_ 4), (1, u "java/lang/Object"), (0, u "<init>"), (0, u "()V"), (0, .integer 2147483647), (0, .methodref 9 10), (0, .class_ 11), (0, .nameAndType 12 13), (0, u "com/example/curves_to_bounds/curvestobounds/Words"), (0, u "used"), (0, u "([JI)I"), (0, .class_ 15), (0, u "com/example/curves_to_bounds/curvestobounds/WordsUsedPinLaw"), (2, u "law"), (0, u "(JJJJII)Z")] 5

def k1m0 : Method := { name := "<init>", desc := "()V", sig := { parameters := [], returnType := none }, accessFlags := 2, code := none }
def k1c1 : Code := { maxStack := 4, maxLocals := 15, code := code, exceptionTable := #[], attributes := #[] }
def k1m1 : Method := { name := "law", desc := "(JJJJII)Z", sig := { parameters := [.long, .long, .long, .long, .int, .int], returnType := some .boolean }, accessFlags := 9, code := some k1c1 }
/-- com/example/curves_to_bounds/curvestobounds/WordsUsedPinLaw -/
def k1 : Class := { plain "com/example/curves_to_bounds/curvestobounds/WordsUsedPinLaw" (some 0) with
  accessFlags := 49
  interfaces := #[]
  cf := some (fileOf pool1 14 #[] #[{ accessFlags := 2, nameIndex := 5, descriptorIndex := 6, attributes := #[] }, { accessFlags := 9, nameIndex := 18, descriptorIndex := 19, attributes := #[] }] 49 2 #[] #[])
  fields := #[]
  methods := #[k1m0, k1m1]
  instanceTypes := #[]
  staticTypes := #[]
  resolved := Array.replicate 25 none
  statics := none }

def pool2 : Array CpInfo := pool [(2, .class_ 4), (1, u "java/lang/Object"), (0, u "<init>"), (0, u "()V"), (23, .class_ 31), (0, u "com/example/curves_to_bounds/curvestobounds/Words"), (11, u "used"), (0, u "([JI)I")] 3

def k2m0 : Method := { name := "<init>", desc := "()V", sig := { parameters := [], returnType := none }, accessFlags := 2, code := none }
def k2c1 : Code := { maxStack := 4, maxLocals := 3, code := prog_54_method_4_code, exceptionTable := #[], attributes := #[] }
def k2m1 : Method := { name := "used", desc := "([JI)I", sig := { parameters := [(.array .long), .int], returnType := some .int }, accessFlags := 8, code := some k2c1 }
/-- com/example/curves_to_bounds/curvestobounds/Words -/
def k2 : Class := { plain "com/example/curves_to_bounds/curvestobounds/Words" (some 0) with
  accessFlags := 32
  interfaces := #[]
  cf := some (fileOf pool2 30 #[] #[{ accessFlags := 2, nameIndex := 5, descriptorIndex := 6, attributes := #[] }, { accessFlags := 8, nameIndex := 43, descriptorIndex := 44, attributes := #[] }] 32 2 #[] #[])
  fields := #[]
  methods := #[k2m0, k2m1]
  instanceTypes := #[]
  staticTypes := #[]
  resolved := Array.replicate 48 none
  statics := none }

def pool3 : Array CpInfo := pool [(1, u "java/lang/Cloneable"), (0, .class_ 1), (0, u "java/lang/Object"), (0, .class_ 3)] 3

/-- java/lang/Cloneable -/
def k3 : Class := { plain "java/lang/Cloneable" (some 0) with
  accessFlags := 1537
  interfaces := #[]
  cf := some (fileOf pool3 2 #[] #[] 1537 4 #[] #[])
  fields := #[]
  methods := #[]
  instanceTypes := #[]
  staticTypes := #[]
  resolved := Array.replicate 8 none
  statics := none }

def pool4 : Array CpInfo := pool [(1, u "java/io/Serializable"), (0, .class_ 1), (0, u "java/lang/Object"), (0, .class_ 3)] 3

/-- java/io/Serializable -/
def k4 : Class := { plain "java/io/Serializable" (some 0) with
  accessFlags := 1537
  interfaces := #[]
  cf := some (fileOf pool4 2 #[] #[] 1537 4 #[] #[])
  fields := #[]
  methods := #[]
  instanceTypes := #[]
  staticTypes := #[]
  resolved := Array.replicate 8 none
  statics := none }

/-- the primitive byte -/
def k5 : Class := { plain "byte" none with kind := .primitive 'B', accessFlags := 0x411 }
/-- [B -/
def k6 : Class := { plain "[B" (some 0) with kind := .array 5 .byte, interfaces := #[3, 4], accessFlags := 1041 }

/-- the primitive int -/
def k7 : Class := { plain "int" none with kind := .primitive 'I', accessFlags := 0x411 }
/-- [I -/
def k8 : Class := { plain "[I" (some 0) with kind := .array 7 .int, interfaces := #[3, 4], accessFlags := 1041 }

/-- the primitive long -/
def k9 : Class := { plain "long" none with kind := .primitive 'J', accessFlags := 0x411 }
/-- [J -/
def k10 : Class := { plain "[J" (some 0) with kind := .array 9 .long, interfaces := #[3, 4], accessFlags := 1041 }

def heap : Heap := #[]
def classes : Array Class := #[k0, k1, k2, k3, k4, k5, k6, k7, k8, k9, k10]
def interned : List (Array UInt16 × Addr) := []
def slotsUsed : Nat := 0
def theMethod : MethodId := ⟨1, 1⟩
def args0 : Array Value := #[.long 5, .long 6, .long 7, .long 8, .int 3, .int 1]
def aboutOver (below : List Frame) : State where
  vm := { classes := classes, interned := interned.toArray }
  heap := heap
  slotsUsed := slotsUsed
  threads := #[{ frames := .invoking theMethod args0 :: below }]
def below0 : List Frame := [.native { method := ⟨0, 0⟩, args := #[] }]
def about1 : State := aboutOver below0
def p0 : Program := .bare "" "" ""
def e0 : Env := launch0.env 0 0 0
theorem w_frames : about1.frames = Frame.invoking theMethod args0 :: below0 := rfl
set_option maxRecDepth 65536 in
theorem w_args : argsFit about1.vm theMethod args0 = true := by decide +kernel
set_option maxRecDepth 65536 in
theorem w_heap : heapFits about1 = true := by decide +kernel
set_option maxRecDepth 65536 in
theorem w_runnable : about1.curStatus? = some .runnable := by decide +kernel
set_option maxRecDepth 65536 in
theorem w_alone : about1.alone = true := by decide +kernel
set_option maxRecDepth 65536 in
theorem w_named : about1.methodNamed? x = some theMethod := by decide +kernel
set_option maxRecDepth 65536 in
theorem w_hears : about1.hears theMethod below0 = true := by decide +kernel
set_option maxRecDepth 65536 in
theorem w_ripe : about1.ripe theMethod args0 below0 = true := by decide +kernel
theorem w_running : about1.status = .running := rfl
set_option maxRecDepth 65536 in
theorem w_room : about1.hasRoom e0.platform room_1 = true :=
  launch0.hasRoom_least _ room_1 (by decide +kernel) (by decide +kernel) (by decide +kernel) (by decide +kernel) (by decide +kernel) (by decide +kernel)
theorem allAtoms_all (ts : List Jvm.Cond) (a : Array Jvm.Value) (st : Jvm.State) : (allAtoms ts).before a st = ts.all (fun c => c.before a st) := by
  induction ts with
  | nil => rfl
  | cons c t ih =>
    show (Jvm.Cond.and c (allAtoms t)).before a st = _
    rw [Jvm.Cond.before_and, ih, List.all_cons]
def words1 : List Jvm.Cond := Jvm.Cond.code x code maxLocals ret :: tables_1
/-- a 'code' word, met by the world's own term for the bytes: nothing is compared byte by byte -/
theorem code_word {y : MethodName} {bytes : ByteArray} {mx : Nat} {rt : Option FieldType} {a : Array Value} {s : State} {m : MethodId} {meth : Method} {c : Code} (h1 : s.methodNamed? y = some m) (h2 : s.vm.method? m = some meth) (h3 : meth.code = some c) (h4 : c.code = bytes)
    (h5 : (c.maxLocals == mx && c.exceptionTable.isEmpty && decide (c.maxStack ≤ mostOperands) && decide (meth.sig.returnType = rt) && !meth.locks && decide (parseMethodDescriptor y.desc = some meth.sig)) = true) : (Jvm.Cond.code y bytes mx rt).before a s = true := by
  simp only [Bool.and_eq_true, beq_iff_eq, Bool.not_eq_true', decide_eq_true_eq] at h5
  obtain ⟨⟨⟨⟨⟨g1, g2⟩, g3⟩, g4⟩, g5⟩, g6⟩ := h5
  simp [Cond.before, Cond.holds, Cond.value, h1, h2, h3, h4, g1, g2, g3, g4, g5, g6]
def isCode : Jvm.Cond → Bool
  | .code _ _ _ _ => true
  | _ => false
theorem all_split {L : List Jvm.Cond} {P : Jvm.Cond → Bool} (h1 : L.all (fun c => isCode c || P c) = true) (h2 : ∀ c ∈ L.filter isCode, P c = true) : L.all P = true := by
  refine List.all_eq_true.mpr fun c hc => ?_
  have h := List.all_eq_true.mp h1 c hc
  rcases Bool.eq_false_or_eq_true (isCode c) with hi | hi
  · exact h2 c (List.mem_filter.mpr ⟨hc, hi⟩)
  · simpa [hi] using h
set_option maxRecDepth 65536 in
theorem w_c0 : (Jvm.Cond.code x code maxLocals ret).before args0 about1 = true := code_word (m := ⟨1, 1⟩) (meth := k1m1) (c := k1c1) (by decide +kernel) rfl rfl rfl (by decide +kernel)
set_option maxRecDepth 65536 in
theorem w_c1 : (Jvm.Cond.code ({ cls := "com/example/curves_to_bounds/curvestobounds/Words", name := "used", desc := "([JI)I" } : Jvm.MethodName) prog_54_method_4_code (3 : Nat) (Option.some Jvm.ClassFile.FieldType.int)).before args0 about1 = true := code_word (m := ⟨2, 1⟩) (meth := k2m1) (c := k2c1) (by decide +kernel) rfl rfl rfl (by decide +kernel)
def codes1 : List Jvm.Cond := [Jvm.Cond.code x code maxLocals ret, Jvm.Cond.code ({ cls := "com/example/curves_to_bounds/curvestobounds/Words", name := "used", desc := "([JI)I" } : Jvm.MethodName) prog_54_method_4_code (3 : Nat) (Option.some Jvm.ClassFile.FieldType.int)]
set_option maxRecDepth 65536 in
theorem codes_eq : words1.filter isCode = codes1 := rfl
theorem w_codes : ∀ c ∈ words1.filter isCode, c.before args0 about1 = true := by
  rw [codes_eq]
  intro c hc
  simp only [codes1, List.mem_cons, List.not_mem_nil, or_false] at hc
  rcases hc with rfl | rfl
  · exact w_c0
  · exact w_c1
set_option maxRecDepth 65536 in
theorem w_t1 : words1.all (fun c => isCode c || c.before args0 about1) = true := by decide +kernel
theorem w_tables : (allAtoms (Jvm.Cond.code x code maxLocals ret :: tables_1)).before args0 about1 = true := by
  rw [allAtoms_all]
  show words1.all (fun c => c.before args0 about1) = true
  refine all_split ?_ w_codes
  rw [w_t1]
set_option maxRecDepth 65536 in
theorem w_case : (Jvm.Cond.and given_1 narrow_1).before args0 about1 = true := by decide +kernel
theorem w_applies : (headSpec (Jvm.Cond.code x code maxLocals ret :: tables_1) room_1).applies x e0.platform about1 = true :=
  (Spec.applies_iff w_frames).mpr ⟨w_running, w_runnable, w_alone, w_named, w_hears, w_ripe, w_room, w_tables⟩
theorem atStart : AtStart classFile x code maxLocals ret World_1 tables_1 room_1 Calls_1 rest_1 Pre_1 launch0 p0 e0 about1 theMethod args0 below0 :=
  ⟨lists_1, trivial, launch0.admits_env _ _ _, launch0.least_env, fairChoices_fair.cas, fairChoices_fair.clock, w_frames, w_args, w_heap, w_applies, trivial, trivial, w_case⟩
end start1
theorem witness_1 : WitnessClaimed_1 := ⟨start1.p0, start1.e0, start1.about1, start1.theMethod, start1.args0, start1.below0, start1.atStart⟩
end Jvm.Pilot.@@N@@
