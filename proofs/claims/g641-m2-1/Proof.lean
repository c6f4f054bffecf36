import JvmDerived
import JvmDerived.Pilot.@@N@@Statement
import JvmDerived.Pilot.@@N@@Code
set_option linter.unusedVariables false
set_option linter.unusedSimpArgs false
@@BLOCK:NumsL.lean.txt@@
namespace Jvm.Pilot.@@N@@
open Jvm Jvm.ClassFile Sem Op Lib Jvm.Free Jvm.Stand Jvm.LawKit Jvm.RoadKit Bundle Jvm.Pilot.@@N@@.Jvm.D
section OwnKit
variable {p : Program} {l : Launch} {e : Env} {R : Room} {s : State} {m : MethodId} {args : Array Value} {below : List Frame} {meth : Method} {c : Code} {T T' : State} {locs : List Loc} {cells slots : Nat} {Z : State} {a0 : Array Value} {h h' : Heap} {cm sm : Nat} {Q : Option Value → Heap → List Loc → Prop} {pc pc' : Nat} {Ls Ls' : Array Slot} {St : List Value}
/-- the walk's goal: from this frame the method comes to its end, and Q holds of what it leaves -/
def Go (p : Program) (e : Env) (below : List Frame) (s : State) (cm sm : Nat) (Q : Option Value → Heap → List Loc → Prop) (T : State) (g : JFrame) : Prop :=
  ∃ s₂ o, Steps p.tables e below (T.setTop g) s₂ ∧ s₂.status = .running ∧ Ended s₂ below o ∧ ∃ v L, o = .returned v ∧ Q v s₂.heap L ∧ FrameEnd s o s₂ L cm sm
theorem Go.st {g g' : JFrame} (q : ∀ t, Steps p.tables e below (T'.setTop g') t → Steps p.tables e below (T.setTop g) t) (k : Go p e below s cm sm Q T' g') : Go p e below s cm sm Q T g := by
  obtain ⟨s₂, o, st, r⟩ := k
  exact ⟨s₂, o, q _ st, r⟩
theorem Go.weak {g : JFrame} {Q' : Option Value → Heap → List Loc → Prop} (k : Go p e below s cm sm Q T g) (q : ∀ v h L, Q v h L → Q' v h L) : Go p e below s cm sm Q' T g := by
  obtain ⟨s₂, o, st, r1, r2, v, L, r3, r4, r5⟩ := k
  exact ⟨s₂, o, st, r1, r2, v, L, r3, q _ _ _ r4, r5⟩
/-- a contract -/
def Con (l : Launch) (Z : State) (y : MethodName) (bytes : ByteArray) (maxL : Nat) (ret : Option FieldType) (rm : Room) (as' : Array Value) (h : Heap) (Q : Option Value → Heap → List Loc → Prop) : Prop :=
  ∀ ws : List Jvm.Cond, MetFree l y (head1 (Jvm.Cond.code y bytes maxL ret :: ws) rm) (fun a U => a = as' ∧ Z.Warmed39 U.vm ∧ U.heap = h) (fun _ _ _ _ _ => True) (fun _ U o U' => ∃ v L, o = .returned v ∧ Q v U'.heap L ∧ FrameEnd U o U' L rm.cells rm.slots)
theorem Con.of {y : MethodName} {bytes : ByteArray} {maxL : Nat} {ret : Option FieldType} {rm : Room} {as' : Array Value} (hpl : plainFor y = true)
    (body : ∀ (p : Program) (e : Env) (s : State) (m : MethodId) (below : List Frame) (meth : Method) (c : Code) (T : State), Stand p l e rm s m as' below meth c T [] 0 0 → p.tables.exec = Jvm.exec → Z.Warmed39 s.vm → c.code = bytes → c.maxLocals = maxL → s.vm.findClass y.cls = some m.cls → meth.name = y.name → meth.sig.returnType = ret → meth.locks = false → T.heap = h → Go p e below s rm.cells rm.slots Q T (entryFrame m as' maxL)) :
    Con l Z y bytes maxL ret rm as' h Q := by
  intro ws
  refine MetFree.of_bodySF hpl hisR ?_
  intro p e s m args below meth c s₁ Bd hml0 hP hK
  obtain ⟨rfl, hZ, hh⟩ := hP
  exact body p e s m below meth c s₁ (Stand.of_body Bd) Bd.exec hZ Bd.bytes hml0 (findClass_of_methodNamed Bd.named) (name_of_methodNamed Bd.named Bd.method).1 Bd.returns Bd.notSynchronized (by rw [← hh, Bd.state]; rfl)
theorem Con.weak {y : MethodName} {bytes : ByteArray} {maxL : Nat} {ret : Option FieldType} {rm : Room} {as' : Array Value} {Q' : Option Value → Heap → List Loc → Prop} (C : Con l Z y bytes maxL ret rm as' h Q) (q : ∀ v h L, Q v h L → Q' v h L) : Con l Z y bytes maxL ret rm as' h Q' := by
  intro ws p e ha hc hk s m args below hf happ hP hK
  obtain ⟨n, o, h1, h2, h3, v, L, r3, r4, r5⟩ := C ws p e ha hc hk s m args below hf happ hP hK
  exact ⟨n, o, h1, h2, h3, v, L, r3, q _ _ _ r4, r5⟩
/-- what a body that writes nothing leaves -/
abbrev QP (v0 : Option Value) (h0 : Heap) (n0 : Nat) : Option Value → Heap → List Loc → Prop := fun v h L => v = v0 ∧ Fr n0 L ∧ h = h0
/-- what a law leaves -/
abbrev QL (v0 : Option Value) (n0 : Nat) : Option Value → Heap → List Loc → Prop := fun v _ L => v = v0 ∧ Fr n0 L
/-- iushr, lushr -/
def jushr (x y : Int32) : Int32 := (x.toUInt32 >>> (y &&& 31).toUInt32).toInt32
def jlushr (x : Int64) (y : Int32) : Int64 := (x.toUInt64 >>> (y &&& 0x3f).toInt64.toUInt64).toInt64
theorem w_iloadN (X : Stand p l e R s m args below meth c T locs cells slots) (hx : p.tables.exec = Jvm.exec) {k : Fin 4} {v : Int32} (hd : decode c.code pc = .ok (.iload_n k, 1)) (hp : pc + 1 = pc') (hl : Ls[k.val]? = some (.val (.int v)))
    (kk : Go p e below s cm sm Q T (mkF m pc' Ls (.int v :: St))) : Go p e below s cm sm Q T (mkF m pc Ls (St)) := by
  subst hp
  exact Go.st (fun t q => XS.iloadN (g := mkF m pc Ls (St)) X.here hx rfl hd hl q) kk
theorem w_iload (X : Stand p l e R s m args below meth c T locs cells slots) (hx : p.tables.exec = Jvm.exec) {k : Nat} {v : Int32} (hd : decode c.code pc = .ok (.iload k, 2)) (hp : pc + 2 = pc') (hl : Ls[k]? = some (.val (.int v)))
    (kk : Go p e below s cm sm Q T (mkF m pc' Ls (.int v :: St))) : Go p e below s cm sm Q T (mkF m pc Ls (St)) := by
  subst hp
  exact Go.st (fun t q => XS.iload (g := mkF m pc Ls (St)) X.here hx rfl hd hl q) kk
theorem w_istoreN (X : Stand p l e R s m args below meth c T locs cells slots) (hx : p.tables.exec = Jvm.exec) {k : Fin 4} {x : Int32} (hd : decode c.code pc = .ok (.istore_n k, 1)) (hp : pc + 1 = pc') (hl : storeLocals Ls k.val (.int x) = some Ls')
    (kk : Go p e below s cm sm Q T (mkF m pc' Ls' (St))) : Go p e below s cm sm Q T (mkF m pc Ls (.int x :: St)) := by
  subst hp
  exact Go.st (fun t q => XS.istoreN (g := mkF m pc Ls (.int x :: St)) X.here hx rfl hd rfl hl q) kk
theorem w_istore (X : Stand p l e R s m args below meth c T locs cells slots) (hx : p.tables.exec = Jvm.exec) {k : Nat} {x : Int32} (hd : decode c.code pc = .ok (.istore k, 2)) (hp : pc + 2 = pc') (hl : storeLocals Ls k (.int x) = some Ls')
    (kk : Go p e below s cm sm Q T (mkF m pc' Ls' (St))) : Go p e below s cm sm Q T (mkF m pc Ls (.int x :: St)) := by
  subst hp
  exact Go.st (fun t q => XS.istore (g := mkF m pc Ls (.int x :: St)) X.here hx rfl hd rfl hl q) kk
theorem w_lloadN (X : Stand p l e R s m args below meth c T locs cells slots) (hx : p.tables.exec = Jvm.exec) {k : Fin 4} {v : Int64} (hd : decode c.code pc = .ok (.lload_n k, 1)) (hp : pc + 1 = pc') (hl : Ls[k.val]? = some (.val (.long v)))
    (kk : Go p e below s cm sm Q T (mkF m pc' Ls (.long v :: St))) : Go p e below s cm sm Q T (mkF m pc Ls (St)) := by
  subst hp
  exact Go.st (fun t q => XS.lloadN (g := mkF m pc Ls (St)) X.here hx rfl hd hl q) kk
theorem w_lload (X : Stand p l e R s m args below meth c T locs cells slots) (hx : p.tables.exec = Jvm.exec) {k : Nat} {v : Int64} (hd : decode c.code pc = .ok (.lload k, 2)) (hp : pc + 2 = pc') (hl : Ls[k]? = some (.val (.long v)))
    (kk : Go p e below s cm sm Q T (mkF m pc' Ls (.long v :: St))) : Go p e below s cm sm Q T (mkF m pc Ls (St)) := by
  subst hp
  exact Go.st (fun t q => XS.lload (g := mkF m pc Ls (St)) X.here hx rfl hd hl q) kk
theorem w_lstoreN (X : Stand p l e R s m args below meth c T locs cells slots) (hx : p.tables.exec = Jvm.exec) {k : Fin 4} {x : Int64} (hd : decode c.code pc = .ok (.lstore_n k, 1)) (hp : pc + 1 = pc') (hl : storeLocals Ls k.val (.long x) = some Ls')
    (kk : Go p e below s cm sm Q T (mkF m pc' Ls' (St))) : Go p e below s cm sm Q T (mkF m pc Ls (.long x :: St)) := by
  subst hp
  exact Go.st (fun t q => XS.lstoreN (g := mkF m pc Ls (.long x :: St)) X.here hx rfl hd rfl hl q) kk
theorem w_lstore (X : Stand p l e R s m args below meth c T locs cells slots) (hx : p.tables.exec = Jvm.exec) {k : Nat} {x : Int64} (hd : decode c.code pc = .ok (.lstore k, 2)) (hp : pc + 2 = pc') (hl : storeLocals Ls k (.long x) = some Ls')
    (kk : Go p e below s cm sm Q T (mkF m pc' Ls' (St))) : Go p e below s cm sm Q T (mkF m pc Ls (.long x :: St)) := by
  subst hp
  exact Go.st (fun t q => XS.lstore (g := mkF m pc Ls (.long x :: St)) X.here hx rfl hd rfl hl q) kk
theorem w_aloadN (X : Stand p l e R s m args below meth c T locs cells slots) (hx : p.tables.exec = Jvm.exec) {k : Fin 4} {v : Value} (hd : decode c.code pc = .ok (.aload_n k, 1)) (hp : pc + 1 = pc') (hl : Ls[k.val]? = some (.val v)) (hv : v.isRef = true)
    (kk : Go p e below s cm sm Q T (mkF m pc' Ls (v :: St))) : Go p e below s cm sm Q T (mkF m pc Ls (St)) := by
  subst hp
  exact Go.st (fun t q => XS.aloadN (g := mkF m pc Ls (St)) X.here hx rfl hd hl hv q) kk
theorem w_aload (X : Stand p l e R s m args below meth c T locs cells slots) (hx : p.tables.exec = Jvm.exec) {k : Nat} {v : Value} (hd : decode c.code pc = .ok (.aload k, 2)) (hp : pc + 2 = pc') (hl : Ls[k]? = some (.val v)) (hv : v.isRef = true)
    (kk : Go p e below s cm sm Q T (mkF m pc' Ls (v :: St))) : Go p e below s cm sm Q T (mkF m pc Ls (St)) := by
  subst hp
  exact Go.st (fun t q => XS.aload (g := mkF m pc Ls (St)) X.here hx rfl hd hl hv q) kk
theorem w_astoreN (X : Stand p l e R s m args below meth c T locs cells slots) (hx : p.tables.exec = Jvm.exec) {k : Fin 4} {x : Value} (hd : decode c.code pc = .ok (.astore_n k, 1)) (hp : pc + 1 = pc') (hv : x.isRef = true) (hl : storeLocals Ls k.val x = some Ls')
    (kk : Go p e below s cm sm Q T (mkF m pc' Ls' (St))) : Go p e below s cm sm Q T (mkF m pc Ls (x :: St)) := by
  subst hp
  exact Go.st (fun t q => XS.astoreN (g := mkF m pc Ls (x :: St)) X.here hx rfl hd rfl hv hl q) kk
theorem w_astore (X : Stand p l e R s m args below meth c T locs cells slots) (hx : p.tables.exec = Jvm.exec) {k : Nat} {x : Value} (hd : decode c.code pc = .ok (.astore k, 2)) (hp : pc + 2 = pc') (hv : x.isRef = true) (hl : storeLocals Ls k x = some Ls')
    (kk : Go p e below s cm sm Q T (mkF m pc' Ls' (St))) : Go p e below s cm sm Q T (mkF m pc Ls (x :: St)) := by
  subst hp
  exact Go.st (fun t q => XS.astore (g := mkF m pc Ls (x :: St)) X.here hx rfl hd rfl hv hl q) kk
theorem w_iconst (X : Stand p l e R s m args below meth c T locs cells slots) (hx : p.tables.exec = Jvm.exec) {i : Int} {v : Int32} (hd : decode c.code pc = .ok (.iconst i, 1)) (hp : pc + 1 = pc') (hv : Int32.ofInt i = v)
    (kk : Go p e below s cm sm Q T (mkF m pc' Ls (.int v :: St))) : Go p e below s cm sm Q T (mkF m pc Ls St) := by
  subst hp hv
  exact Go.st (fun t q => XS.iconst (g := mkF m pc Ls St) X.here hx rfl hd q) kk
theorem w_bipush (X : Stand p l e R s m args below meth c T locs cells slots) (hx : p.tables.exec = Jvm.exec) {i : Int} {v : Int32} (hd : decode c.code pc = .ok (.bipush i, 2)) (hp : pc + 2 = pc') (hv : (Int8.ofInt i).toInt32 = v)
    (kk : Go p e below s cm sm Q T (mkF m pc' Ls (.int v :: St))) : Go p e below s cm sm Q T (mkF m pc Ls St) := by
  subst hp hv
  exact Go.st (fun t q => XS.bipush (g := mkF m pc Ls St) X.here hx rfl hd q) kk
theorem w_sipush (X : Stand p l e R s m args below meth c T locs cells slots) (hx : p.tables.exec = Jvm.exec) {i : Int} {v : Int32} (hd : decode c.code pc = .ok (.sipush i, 3)) (hp : pc + 3 = pc') (hv : (Int16.ofInt i).toInt32 = v)
    (kk : Go p e below s cm sm Q T (mkF m pc' Ls (.int v :: St))) : Go p e below s cm sm Q T (mkF m pc Ls St) := by
  subst hp hv
  exact Go.st (fun t q => XS.sipush (g := mkF m pc Ls St) X.here hx rfl hd q) kk
theorem w_lconst (X : Stand p l e R s m args below meth c T locs cells slots) (hx : p.tables.exec = Jvm.exec) {i : Fin 2} {v : Int64} (hd : decode c.code pc = .ok (.lconst i, 1)) (hp : pc + 1 = pc') (hv : Int64.ofNat i = v)
    (kk : Go p e below s cm sm Q T (mkF m pc' Ls (.long v :: St))) : Go p e below s cm sm Q T (mkF m pc Ls St) := by
  subst hp hv
  exact Go.st (fun t q => XS.lconst (g := mkF m pc Ls St) X.here hx rfl hd q) kk
theorem w_aconstNull (X : Stand p l e R s m args below meth c T locs cells slots) (hx : p.tables.exec = Jvm.exec)  (hd : decode c.code pc = .ok (.aconst_null, 1)) (hp : pc + 1 = pc')
    (kk : Go p e below s cm sm Q T (mkF m pc' Ls (.null :: St))) : Go p e below s cm sm Q T (mkF m pc Ls (St)) := by
  subst hp
  exact Go.st (fun t q => XS.aconstNull (g := mkF m pc Ls (St)) X.here hx rfl hd q) kk
theorem w_iadd (X : Stand p l e R s m args below meth c T locs cells slots) (hx : p.tables.exec = Jvm.exec) {x y : Int32} (hd : decode c.code pc = .ok (.iadd, 1)) (hp : pc + 1 = pc')
    (kk : Go p e below s cm sm Q T (mkF m pc' Ls (.int (x + y) :: St))) : Go p e below s cm sm Q T (mkF m pc Ls (.int y :: .int x :: St)) := by
  subst hp
  exact Go.st (fun t q => XS.iadd (g := mkF m pc Ls (.int y :: .int x :: St)) X.here hx rfl hd rfl q) kk
theorem w_ladd (X : Stand p l e R s m args below meth c T locs cells slots) (hx : p.tables.exec = Jvm.exec) {x y : Int64} (hd : decode c.code pc = .ok (.ladd, 1)) (hp : pc + 1 = pc')
    (kk : Go p e below s cm sm Q T (mkF m pc' Ls (.long (x + y) :: St))) : Go p e below s cm sm Q T (mkF m pc Ls (.long y :: .long x :: St)) := by
  subst hp
  exact Go.st (fun t q => XS.ladd (g := mkF m pc Ls (.long y :: .long x :: St)) X.here hx rfl hd rfl q) kk
theorem w_isub (X : Stand p l e R s m args below meth c T locs cells slots) (hx : p.tables.exec = Jvm.exec) {x y : Int32} (hd : decode c.code pc = .ok (.isub, 1)) (hp : pc + 1 = pc')
    (kk : Go p e below s cm sm Q T (mkF m pc' Ls (.int (x - y) :: St))) : Go p e below s cm sm Q T (mkF m pc Ls (.int y :: .int x :: St)) := by
  subst hp
  exact Go.st (fun t q => XS.isub (g := mkF m pc Ls (.int y :: .int x :: St)) X.here hx rfl hd rfl q) kk
theorem w_lsub (X : Stand p l e R s m args below meth c T locs cells slots) (hx : p.tables.exec = Jvm.exec) {x y : Int64} (hd : decode c.code pc = .ok (.lsub, 1)) (hp : pc + 1 = pc')
    (kk : Go p e below s cm sm Q T (mkF m pc' Ls (.long (x - y) :: St))) : Go p e below s cm sm Q T (mkF m pc Ls (.long y :: .long x :: St)) := by
  subst hp
  exact Go.st (fun t q => XS.lsub (g := mkF m pc Ls (.long y :: .long x :: St)) X.here hx rfl hd rfl q) kk
theorem w_imul (X : Stand p l e R s m args below meth c T locs cells slots) (hx : p.tables.exec = Jvm.exec) {x y : Int32} (hd : decode c.code pc = .ok (.imul, 1)) (hp : pc + 1 = pc')
    (kk : Go p e below s cm sm Q T (mkF m pc' Ls (.int (x * y) :: St))) : Go p e below s cm sm Q T (mkF m pc Ls (.int y :: .int x :: St)) := by
  subst hp
  exact Go.st (fun t q => XS.imul (g := mkF m pc Ls (.int y :: .int x :: St)) X.here hx rfl hd rfl q) kk
theorem w_lmul (X : Stand p l e R s m args below meth c T locs cells slots) (hx : p.tables.exec = Jvm.exec) {x y : Int64} (hd : decode c.code pc = .ok (.lmul, 1)) (hp : pc + 1 = pc')
    (kk : Go p e below s cm sm Q T (mkF m pc' Ls (.long (x * y) :: St))) : Go p e below s cm sm Q T (mkF m pc Ls (.long y :: .long x :: St)) := by
  subst hp
  exact Go.st (fun t q => XS.lmul (g := mkF m pc Ls (.long y :: .long x :: St)) X.here hx rfl hd rfl q) kk
theorem w_iand (X : Stand p l e R s m args below meth c T locs cells slots) (hx : p.tables.exec = Jvm.exec) {x y : Int32} (hd : decode c.code pc = .ok (.iand, 1)) (hp : pc + 1 = pc')
    (kk : Go p e below s cm sm Q T (mkF m pc' Ls (.int (x &&& y) :: St))) : Go p e below s cm sm Q T (mkF m pc Ls (.int y :: .int x :: St)) := by
  subst hp
  exact Go.st (fun t q => XS.iand (g := mkF m pc Ls (.int y :: .int x :: St)) X.here hx rfl hd rfl q) kk
theorem w_land (X : Stand p l e R s m args below meth c T locs cells slots) (hx : p.tables.exec = Jvm.exec) {x y : Int64} (hd : decode c.code pc = .ok (.land, 1)) (hp : pc + 1 = pc')
    (kk : Go p e below s cm sm Q T (mkF m pc' Ls (.long (x &&& y) :: St))) : Go p e below s cm sm Q T (mkF m pc Ls (.long y :: .long x :: St)) := by
  subst hp
  exact Go.st (fun t q => XS.land (g := mkF m pc Ls (.long y :: .long x :: St)) X.here hx rfl hd rfl q) kk
theorem w_ior (X : Stand p l e R s m args below meth c T locs cells slots) (hx : p.tables.exec = Jvm.exec) {x y : Int32} (hd : decode c.code pc = .ok (.ior, 1)) (hp : pc + 1 = pc')
    (kk : Go p e below s cm sm Q T (mkF m pc' Ls (.int (x ||| y) :: St))) : Go p e below s cm sm Q T (mkF m pc Ls (.int y :: .int x :: St)) := by
  subst hp
  exact Go.st (fun t q => XS.ior (g := mkF m pc Ls (.int y :: .int x :: St)) X.here hx rfl hd rfl q) kk
theorem w_lor (X : Stand p l e R s m args below meth c T locs cells slots) (hx : p.tables.exec = Jvm.exec) {x y : Int64} (hd : decode c.code pc = .ok (.lor, 1)) (hp : pc + 1 = pc')
    (kk : Go p e below s cm sm Q T (mkF m pc' Ls (.long (x ||| y) :: St))) : Go p e below s cm sm Q T (mkF m pc Ls (.long y :: .long x :: St)) := by
  subst hp
  exact Go.st (fun t q => XS.lor (g := mkF m pc Ls (.long y :: .long x :: St)) X.here hx rfl hd rfl q) kk
theorem w_ixor (X : Stand p l e R s m args below meth c T locs cells slots) (hx : p.tables.exec = Jvm.exec) {x y : Int32} (hd : decode c.code pc = .ok (.ixor, 1)) (hp : pc + 1 = pc')
    (kk : Go p e below s cm sm Q T (mkF m pc' Ls (.int (x ^^^ y) :: St))) : Go p e below s cm sm Q T (mkF m pc Ls (.int y :: .int x :: St)) := by
  subst hp
  exact Go.st (fun t q => XS.ixor (g := mkF m pc Ls (.int y :: .int x :: St)) X.here hx rfl hd rfl q) kk
theorem w_lxor (X : Stand p l e R s m args below meth c T locs cells slots) (hx : p.tables.exec = Jvm.exec) {x y : Int64} (hd : decode c.code pc = .ok (.lxor, 1)) (hp : pc + 1 = pc')
    (kk : Go p e below s cm sm Q T (mkF m pc' Ls (.long (x ^^^ y) :: St))) : Go p e below s cm sm Q T (mkF m pc Ls (.long y :: .long x :: St)) := by
  subst hp
  exact Go.st (fun t q => XS.lxor (g := mkF m pc Ls (.long y :: .long x :: St)) X.here hx rfl hd rfl q) kk
theorem w_idiv (X : Stand p l e R s m args below meth c T locs cells slots) (hx : p.tables.exec = Jvm.exec) {x y : Int32} (hd : decode c.code pc = .ok (.idiv, 1)) (hp : pc + 1 = pc') (hy : y ≠ 0)
    (kk : Go p e below s cm sm Q T (mkF m pc' Ls (.int (x / y) :: St))) : Go p e below s cm sm Q T (mkF m pc Ls (.int y :: .int x :: St)) := by
  subst hp
  exact Go.st (fun t q => XS.idiv (g := mkF m pc Ls (.int y :: .int x :: St)) X.here hx rfl hd rfl hy q) kk
theorem own_irem (x y : Int32) : x - x / y * y = x % y := by
  apply Int32.toInt_inj.mp
  have h : x.toInt - x.toInt.tdiv y.toInt * y.toInt = x.toInt.tmod y.toInt := by
    have := Int.mul_tdiv_add_tmod x.toInt y.toInt
    rw [Int.mul_comm]; omega
  have hr := (x % y).toInt_lt
  have hl := (x % y).le_toInt
  rw [Int32.toInt_mod] at hr hl
  rw [Int32.toInt_sub, Int32.toInt_mul, Int32.toInt_div, Int32.toInt_mod, Int.bmod_mul_bmod, Int.sub_bmod_bmod, h, Jvm.Kit.bmod32 (by omega) (by omega)]
theorem w_irem (X : Stand p l e R s m args below meth c T locs cells slots) (hx : p.tables.exec = Jvm.exec) {x y : Int32} (hd : decode c.code pc = .ok (.irem, 1)) (hp : pc + 1 = pc') (hy : y ≠ 0)
    (kk : Go p e below s cm sm Q T (mkF m pc' Ls (.int (x % y) :: St))) : Go p e below s cm sm Q T (mkF m pc Ls (.int y :: .int x :: St)) := by
  subst hp
  rw [← own_irem] at kk
  exact Go.st (fun t q => XS.irem (g := mkF m pc Ls (.int y :: .int x :: St)) X.here hx rfl hd rfl hy q) kk
theorem w_ldiv (X : Stand p l e R s m args below meth c T locs cells slots) (hx : p.tables.exec = Jvm.exec) {x y : Int64} (hd : decode c.code pc = .ok (.ldiv, 1)) (hp : pc + 1 = pc') (hy : y ≠ 0)
    (kk : Go p e below s cm sm Q T (mkF m pc' Ls (.long (x / y) :: St))) : Go p e below s cm sm Q T (mkF m pc Ls (.long y :: .long x :: St)) := by
  subst hp
  exact Go.st (fun t q => XS.ldiv (g := mkF m pc Ls (.long y :: .long x :: St)) X.here hx rfl hd rfl hy q) kk
theorem own_lrem (x y : Int64) : x - x / y * y = x % y := by
  apply Int64.toInt_inj.mp
  have h : x.toInt - x.toInt.tdiv y.toInt * y.toInt = x.toInt.tmod y.toInt := by
    have := Int.mul_tdiv_add_tmod x.toInt y.toInt
    rw [Int.mul_comm]; omega
  have hr := (x % y).toInt_lt
  have hl := (x % y).le_toInt
  rw [Int64.toInt_mod] at hr hl
  rw [Int64.toInt_sub, Int64.toInt_mul, Int64.toInt_div, Int64.toInt_mod, Int.bmod_mul_bmod, Int.sub_bmod_bmod, h, Jvm.Kit.bmod64 (by omega) (by omega)]
theorem w_lrem (X : Stand p l e R s m args below meth c T locs cells slots) (hx : p.tables.exec = Jvm.exec) {x y : Int64} (hd : decode c.code pc = .ok (.lrem, 1)) (hp : pc + 1 = pc') (hy : y ≠ 0)
    (kk : Go p e below s cm sm Q T (mkF m pc' Ls (.long (x % y) :: St))) : Go p e below s cm sm Q T (mkF m pc Ls (.long y :: .long x :: St)) := by
  subst hp
  rw [← own_lrem] at kk
  exact Go.st (fun t q => XS.lrem (g := mkF m pc Ls (.long y :: .long x :: St)) X.here hx rfl hd rfl hy q) kk
theorem w_ineg (X : Stand p l e R s m args below meth c T locs cells slots) (hx : p.tables.exec = Jvm.exec) {x : Int32} (hd : decode c.code pc = .ok (.ineg, 1)) (hp : pc + 1 = pc')
    (kk : Go p e below s cm sm Q T (mkF m pc' Ls (.int (-x) :: St))) : Go p e below s cm sm Q T (mkF m pc Ls (.int x :: St)) := by
  subst hp
  exact Go.st (fun t q => XS.ineg (g := mkF m pc Ls (.int x :: St)) X.here hx rfl hd rfl q) kk
theorem w_lneg (X : Stand p l e R s m args below meth c T locs cells slots) (hx : p.tables.exec = Jvm.exec) {x : Int64} (hd : decode c.code pc = .ok (.lneg, 1)) (hp : pc + 1 = pc')
    (kk : Go p e below s cm sm Q T (mkF m pc' Ls (.long (-x) :: St))) : Go p e below s cm sm Q T (mkF m pc Ls (.long x :: St)) := by
  subst hp
  exact Go.st (fun t q => XS.lneg (g := mkF m pc Ls (.long x :: St)) X.here hx rfl hd rfl q) kk
theorem w_i2l (X : Stand p l e R s m args below meth c T locs cells slots) (hx : p.tables.exec = Jvm.exec) {x : Int32} (hd : decode c.code pc = .ok (.i2l, 1)) (hp : pc + 1 = pc')
    (kk : Go p e below s cm sm Q T (mkF m pc' Ls (.long x.toInt64 :: St))) : Go p e below s cm sm Q T (mkF m pc Ls (.int x :: St)) := by
  subst hp
  exact Go.st (fun t q => XS.i2l (g := mkF m pc Ls (.int x :: St)) X.here hx rfl hd rfl q) kk
theorem w_l2i (X : Stand p l e R s m args below meth c T locs cells slots) (hx : p.tables.exec = Jvm.exec) {x : Int64} (hd : decode c.code pc = .ok (.l2i, 1)) (hp : pc + 1 = pc')
    (kk : Go p e below s cm sm Q T (mkF m pc' Ls (.int x.toInt32 :: St))) : Go p e below s cm sm Q T (mkF m pc Ls (.long x :: St)) := by
  subst hp
  exact Go.st (fun t q => XS.l2i (g := mkF m pc Ls (.long x :: St)) X.here hx rfl hd rfl q) kk
theorem w_i2b (X : Stand p l e R s m args below meth c T locs cells slots) (hx : p.tables.exec = Jvm.exec) {x : Int32} (hd : decode c.code pc = .ok (.i2b, 1)) (hp : pc + 1 = pc')
    (kk : Go p e below s cm sm Q T (mkF m pc' Ls (.int x.toInt8.toInt32 :: St))) : Go p e below s cm sm Q T (mkF m pc Ls (.int x :: St)) := by
  subst hp
  exact Go.st (fun t q => XS.i2b (g := mkF m pc Ls (.int x :: St)) X.here hx rfl hd rfl q) kk
theorem w_i2c (X : Stand p l e R s m args below meth c T locs cells slots) (hx : p.tables.exec = Jvm.exec) {x : Int32} (hd : decode c.code pc = .ok (.i2c, 1)) (hp : pc + 1 = pc')
    (kk : Go p e below s cm sm Q T (mkF m pc' Ls (.int x.toUInt32.toUInt16.toUInt32.toInt32 :: St))) : Go p e below s cm sm Q T (mkF m pc Ls (.int x :: St)) := by
  subst hp
  exact Go.st (fun t q => XS.i2c (g := mkF m pc Ls (.int x :: St)) X.here hx rfl hd rfl q) kk
theorem w_ishl (X : Stand p l e R s m args below meth c T locs cells slots) (hx : p.tables.exec = Jvm.exec) {x y : Int32} (hd : decode c.code pc = .ok (.ishl, 1)) (hp : pc + 1 = pc')
    (kk : Go p e below s cm sm Q T (mkF m pc' Ls (.int (x <<< (y &&& 31)) :: St))) : Go p e below s cm sm Q T (mkF m pc Ls (.int y :: .int x :: St)) := by
  subst hp
  exact Go.st (fun t q => XS.ishl (g := mkF m pc Ls (.int y :: .int x :: St)) X.here hx rfl hd rfl q) kk
theorem w_ishr (X : Stand p l e R s m args below meth c T locs cells slots) (hx : p.tables.exec = Jvm.exec) {x y : Int32} (hd : decode c.code pc = .ok (.ishr, 1)) (hp : pc + 1 = pc')
    (kk : Go p e below s cm sm Q T (mkF m pc' Ls (.int (x >>> (y &&& 31)) :: St))) : Go p e below s cm sm Q T (mkF m pc Ls (.int y :: .int x :: St)) := by
  subst hp
  exact Go.st (fun t q => XS.ishr (g := mkF m pc Ls (.int y :: .int x :: St)) X.here hx rfl hd rfl q) kk
theorem w_iushr (X : Stand p l e R s m args below meth c T locs cells slots) (hx : p.tables.exec = Jvm.exec) {x y : Int32} (hd : decode c.code pc = .ok (.iushr, 1)) (hp : pc + 1 = pc')
    (kk : Go p e below s cm sm Q T (mkF m pc' Ls (.int (jushr x y) :: St))) : Go p e below s cm sm Q T (mkF m pc Ls (.int y :: .int x :: St)) := by
  subst hp
  exact Go.st (fun t q => XS.iushr (g := mkF m pc Ls (.int y :: .int x :: St)) X.here hx rfl hd rfl q) kk
theorem w_lshl (X : Stand p l e R s m args below meth c T locs cells slots) (hx : p.tables.exec = Jvm.exec) {x : Int64} {y : Int32} (hd : decode c.code pc = .ok (.lshl, 1)) (hp : pc + 1 = pc')
    (kk : Go p e below s cm sm Q T (mkF m pc' Ls (.long (x <<< (y &&& 0x3f).toInt64) :: St))) : Go p e below s cm sm Q T (mkF m pc Ls (.int y :: .long x :: St)) := by
  subst hp
  exact Go.st (fun t q => XS.lshl (g := mkF m pc Ls (.int y :: .long x :: St)) X.here hx rfl hd rfl q) kk
theorem w_lshr (X : Stand p l e R s m args below meth c T locs cells slots) (hx : p.tables.exec = Jvm.exec) {x : Int64} {y : Int32} (hd : decode c.code pc = .ok (.lshr, 1)) (hp : pc + 1 = pc')
    (kk : Go p e below s cm sm Q T (mkF m pc' Ls (.long (x >>> (y &&& 0x3f).toInt64) :: St))) : Go p e below s cm sm Q T (mkF m pc Ls (.int y :: .long x :: St)) := by
  subst hp
  exact Go.st (fun t q => XS.lshr (g := mkF m pc Ls (.int y :: .long x :: St)) X.here hx rfl hd rfl q) kk
theorem w_lushr (X : Stand p l e R s m args below meth c T locs cells slots) (hx : p.tables.exec = Jvm.exec) {x : Int64} {y : Int32} (hd : decode c.code pc = .ok (.lushr, 1)) (hp : pc + 1 = pc')
    (kk : Go p e below s cm sm Q T (mkF m pc' Ls (.long (jlushr x y) :: St))) : Go p e below s cm sm Q T (mkF m pc Ls (.int y :: .long x :: St)) := by
  subst hp
  exact Go.st (fun t q => XS.lushr (g := mkF m pc Ls (.int y :: .long x :: St)) X.here hx rfl hd rfl q) kk
theorem w_lcmp (X : Stand p l e R s m args below meth c T locs cells slots) (hx : p.tables.exec = Jvm.exec) {x y : Int64} (hd : decode c.code pc = .ok (.lcmp, 1)) (hp : pc + 1 = pc')
    (kk : Go p e below s cm sm Q T (mkF m pc' Ls (.int (lcmpW x y) :: St))) : Go p e below s cm sm Q T (mkF m pc Ls (.long y :: .long x :: St)) := by
  subst hp
  exact Go.st (fun t q => XS.lcmp (g := mkF m pc Ls (.long y :: .long x :: St)) X.here hx rfl hd rfl q) kk
theorem w_dup (X : Stand p l e R s m args below meth c T locs cells slots) (hx : p.tables.exec = Jvm.exec) {x : Value} (hd : decode c.code pc = .ok (.dup, 1)) (hp : pc + 1 = pc') (hv : x.category = 1)
    (kk : Go p e below s cm sm Q T (mkF m pc' Ls (x :: x :: St))) : Go p e below s cm sm Q T (mkF m pc Ls (x :: St)) := by
  subst hp
  exact Go.st (fun t q => XS.dup (g := mkF m pc Ls (x :: St)) X.here hx rfl hd rfl hv q) kk
theorem w_pop (X : Stand p l e R s m args below meth c T locs cells slots) (hx : p.tables.exec = Jvm.exec) {x : Value} (hd : decode c.code pc = .ok (.pop, 1)) (hp : pc + 1 = pc') (hv : x.category = 1)
    (kk : Go p e below s cm sm Q T (mkF m pc' Ls (St))) : Go p e below s cm sm Q T (mkF m pc Ls (x :: St)) := by
  subst hp
  exact Go.st (fun t q => XS.pop (g := mkF m pc Ls (x :: St)) X.here hx rfl hd rfl hv q) kk
theorem w_dupX1 (X : Stand p l e R s m args below meth c T locs cells slots) (hx : p.tables.exec = Jvm.exec) {x y : Value} (hd : decode c.code pc = .ok (.dup_x1, 1)) (hp : pc + 1 = pc') (hv : x.category = 1) (hv' : y.category = 1)
    (kk : Go p e below s cm sm Q T (mkF m pc' Ls (x :: y :: x :: St))) : Go p e below s cm sm Q T (mkF m pc Ls (x :: y :: St)) := by
  subst hp
  exact Go.st (fun t q => XS.dupX1 (g := mkF m pc Ls (x :: y :: St)) X.here hx rfl hd rfl hv hv' q) kk
theorem w_iinc (X : Stand p l e R s m args below meth c T locs cells slots) (hx : p.tables.exec = Jvm.exec) {k : Nat} {cst : Int} {x w : Int32} (hd : decode c.code pc = .ok (.iinc k cst, 3)) (hp : pc + 3 = pc') (hl : Ls[k]? = some (.val (.int x))) (hv : Int32.ofInt cst = w) (hl' : storeLocals Ls k (.int (x + w)) = some Ls')
    (kk : Go p e below s cm sm Q T (mkF m pc' Ls' St)) : Go p e below s cm sm Q T (mkF m pc Ls St) := by
  subst hp hv
  exact Go.st (fun t q => XS.iinc (g := mkF m pc Ls St) X.here hx rfl hd hl hl' q) kk
theorem w_goto (X : Stand p l e R s m args below meth c T locs cells slots) (hx : p.tables.exec = Jvm.exec) {o : Int} (hd : decode c.code pc = .ok (.goto o, 3)) (ho : 0 ≤ (pc : Int) + o) (hp : ((pc : Int) + o).toNat = pc')
    (kk : Go p e below s cm sm Q T (mkF m pc' Ls St)) : Go p e below s cm sm Q T (mkF m pc Ls St) :=
  Go.st (fun t q => XS.goto (g := mkF m pc Ls St) X.here hx rfl (pc0 := pc) (pc' := pc') rfl hd ho hp q) kk
theorem w_icmp0 (X : Stand p l e R s m args below meth c T locs cells slots) (hx : p.tables.exec = Jvm.exec) {cd : ClassFile.Cond} {x y : Int32} {o : Int} {pt pf : Nat} (hd : decode c.code pc = .ok (.if_icmp cd o, 3)) (hf : pc + 3 = pf) (ho : 0 ≤ (pc : Int) + o) (hp : ((pc : Int) + o).toNat = pt)
    (kT : if_icmp.holds cd x y = true → Go p e below s cm sm Q T (mkF m pt Ls St)) (kF : if_icmp.holds cd x y = false → Go p e below s cm sm Q T (mkF m pf Ls St)) : Go p e below s cm sm Q T (mkF m pc Ls (.int y :: .int x :: St)) := by
  subst hf
  cases hc : if_icmp.holds cd x y with
  | true => exact Go.st (fun t q => XS.icmpYes (g := mkF m pc Ls (.int y :: .int x :: St)) X.here hx rfl (pc0 := pc) (pc' := pt) rfl hd rfl hc ho hp q) (kT hc)
  | false => exact Go.st (fun t q => XS.icmpNo (g := mkF m pc Ls (.int y :: .int x :: St)) X.here hx rfl hd rfl hc q) (kF hc)
theorem w_if0 (X : Stand p l e R s m args below meth c T locs cells slots) (hx : p.tables.exec = Jvm.exec) {cd : ClassFile.Cond} {x : Int32} {o : Int} {pt pf : Nat} (hd : decode c.code pc = .ok (.ifCond cd o, 3)) (hf : pc + 3 = pf) (ho : 0 ≤ (pc : Int) + o) (hp : ((pc : Int) + o).toNat = pt)
    (kT : if_icmp.holds cd x 0 = true → Go p e below s cm sm Q T (mkF m pt Ls St)) (kF : if_icmp.holds cd x 0 = false → Go p e below s cm sm Q T (mkF m pf Ls St)) : Go p e below s cm sm Q T (mkF m pc Ls (.int x :: St)) := by
  subst hf
  cases hc : if_icmp.holds cd x 0 with
  | true => exact Go.st (fun t q => XS.ifYes (g := mkF m pc Ls (.int x :: St)) X.here hx rfl (pc0 := pc) (pc' := pt) rfl hd rfl ((if0 _ _).trans hc) ho hp q) (kT hc)
  | false => exact Go.st (fun t q => XS.ifNo (g := mkF m pc Ls (.int x :: St)) X.here hx rfl hd rfl ((if0 _ _).trans hc) q) (kF hc)
theorem h_lt {x y : Int32} : (if_icmp.holds .lt x y = true → x < y) ∧ (if_icmp.holds .lt x y = false → ¬ x < y) := ⟨fun h => Decidable.byContradiction fun q => by simp [(flt q).1] at h, fun h q => by simp [(tlt q).1] at h⟩
theorem h_ge {x y : Int32} : (if_icmp.holds .ge x y = true → ¬ x < y) ∧ (if_icmp.holds .ge x y = false → x < y) := ⟨fun h q => by simp [(tlt q).2.1] at h, fun h => Decidable.byContradiction fun q => by simp [(flt q).2.1] at h⟩
theorem h_gt {x y : Int32} : (if_icmp.holds .gt x y = true → y < x) ∧ (if_icmp.holds .gt x y = false → ¬ y < x) := ⟨fun h => Decidable.byContradiction fun q => by simp [(flt q).2.2.1] at h, fun h q => by simp [(tlt q).2.2.1] at h⟩
theorem h_le {x y : Int32} : (if_icmp.holds .le x y = true → ¬ y < x) ∧ (if_icmp.holds .le x y = false → y < x) := ⟨fun h q => by simp [(tlt q).2.2.2] at h, fun h => Decidable.byContradiction fun q => by simp [(flt q).2.2.2] at h⟩
theorem h_eq {x y : Int32} : (if_icmp.holds .eq x y = true → x = y) ∧ (if_icmp.holds .eq x y = false → ¬ x = y) := ⟨fun h => Decidable.byContradiction fun q => by simp [(feq q).1] at h, fun h q => by simp [(teq q).1] at h⟩
theorem h_ne {x y : Int32} : (if_icmp.holds .ne x y = true → ¬ x = y) ∧ (if_icmp.holds .ne x y = false → x = y) := ⟨fun h q => by simp [(teq q).2] at h, fun h => Decidable.byContradiction fun q => by simp [(feq q).2] at h⟩
theorem w_icmp_lt (X : Stand p l e R s m args below meth c T locs cells slots) (hx : p.tables.exec = Jvm.exec) {x y : Int32} {o : Int} {pt pf : Nat} (hd : decode c.code pc = .ok (.if_icmp .lt o, 3)) (hf : pc + 3 = pf) (ho : 0 ≤ (pc : Int) + o) (hp : ((pc : Int) + o).toNat = pt)
    (kT : x < y → Go p e below s cm sm Q T (mkF m pt Ls St)) (kF : ¬ (x < y) → Go p e below s cm sm Q T (mkF m pf Ls St)) : Go p e below s cm sm Q T (mkF m pc Ls (.int y :: .int x :: St)) :=
  w_icmp0 X hx hd hf ho hp (fun h => kT (h_lt.1 h)) (fun h => kF (h_lt.2 h))
theorem w_if_lt (X : Stand p l e R s m args below meth c T locs cells slots) (hx : p.tables.exec = Jvm.exec) {x : Int32} {o : Int} {pt pf : Nat} (hd : decode c.code pc = .ok (.ifCond .lt o, 3)) (hf : pc + 3 = pf) (ho : 0 ≤ (pc : Int) + o) (hp : ((pc : Int) + o).toNat = pt)
    (kT : x < 0 → Go p e below s cm sm Q T (mkF m pt Ls St)) (kF : ¬ (x < 0) → Go p e below s cm sm Q T (mkF m pf Ls St)) : Go p e below s cm sm Q T (mkF m pc Ls (.int x :: St)) :=
  w_if0 X hx hd hf ho hp (fun h => kT (h_lt.1 h)) (fun h => kF (h_lt.2 h))
theorem w_ifL_lt (X : Stand p l e R s m args below meth c T locs cells slots) (hx : p.tables.exec = Jvm.exec) {x y : Int64} {o : Int} {pt pf : Nat} (hd : decode c.code pc = .ok (.ifCond .lt o, 3)) (hf : pc + 3 = pf) (ho : 0 ≤ (pc : Int) + o) (hp : ((pc : Int) + o).toNat = pt)
    (kT : x < y → Go p e below s cm sm Q T (mkF m pt Ls St)) (kF : ¬ (x < y) → Go p e below s cm sm Q T (mkF m pf Ls St)) : Go p e below s cm sm Q T (mkF m pc Ls (.int (lcmpW x y) :: St)) :=
  w_if_lt X hx hd hf ho hp (fun q => kT ((lw_lt x y).1 q)) (fun q => kF (fun r => q ((lw_lt x y).2 r)))
theorem w_icmp_ge (X : Stand p l e R s m args below meth c T locs cells slots) (hx : p.tables.exec = Jvm.exec) {x y : Int32} {o : Int} {pt pf : Nat} (hd : decode c.code pc = .ok (.if_icmp .ge o, 3)) (hf : pc + 3 = pf) (ho : 0 ≤ (pc : Int) + o) (hp : ((pc : Int) + o).toNat = pt)
    (kT : ¬ (x < y) → Go p e below s cm sm Q T (mkF m pt Ls St)) (kF : x < y → Go p e below s cm sm Q T (mkF m pf Ls St)) : Go p e below s cm sm Q T (mkF m pc Ls (.int y :: .int x :: St)) :=
  w_icmp0 X hx hd hf ho hp (fun h => kT (h_ge.1 h)) (fun h => kF (h_ge.2 h))
theorem w_if_ge (X : Stand p l e R s m args below meth c T locs cells slots) (hx : p.tables.exec = Jvm.exec) {x : Int32} {o : Int} {pt pf : Nat} (hd : decode c.code pc = .ok (.ifCond .ge o, 3)) (hf : pc + 3 = pf) (ho : 0 ≤ (pc : Int) + o) (hp : ((pc : Int) + o).toNat = pt)
    (kT : ¬ (x < 0) → Go p e below s cm sm Q T (mkF m pt Ls St)) (kF : x < 0 → Go p e below s cm sm Q T (mkF m pf Ls St)) : Go p e below s cm sm Q T (mkF m pc Ls (.int x :: St)) :=
  w_if0 X hx hd hf ho hp (fun h => kT (h_ge.1 h)) (fun h => kF (h_ge.2 h))
theorem w_ifL_ge (X : Stand p l e R s m args below meth c T locs cells slots) (hx : p.tables.exec = Jvm.exec) {x y : Int64} {o : Int} {pt pf : Nat} (hd : decode c.code pc = .ok (.ifCond .ge o, 3)) (hf : pc + 3 = pf) (ho : 0 ≤ (pc : Int) + o) (hp : ((pc : Int) + o).toNat = pt)
    (kT : ¬ (x < y) → Go p e below s cm sm Q T (mkF m pt Ls St)) (kF : x < y → Go p e below s cm sm Q T (mkF m pf Ls St)) : Go p e below s cm sm Q T (mkF m pc Ls (.int (lcmpW x y) :: St)) :=
  w_if_ge X hx hd hf ho hp (fun q => kT (fun r => q ((lw_lt x y).2 r))) (fun q => kF ((lw_lt x y).1 q))
theorem w_icmp_gt (X : Stand p l e R s m args below meth c T locs cells slots) (hx : p.tables.exec = Jvm.exec) {x y : Int32} {o : Int} {pt pf : Nat} (hd : decode c.code pc = .ok (.if_icmp .gt o, 3)) (hf : pc + 3 = pf) (ho : 0 ≤ (pc : Int) + o) (hp : ((pc : Int) + o).toNat = pt)
    (kT : y < x → Go p e below s cm sm Q T (mkF m pt Ls St)) (kF : ¬ (y < x) → Go p e below s cm sm Q T (mkF m pf Ls St)) : Go p e below s cm sm Q T (mkF m pc Ls (.int y :: .int x :: St)) :=
  w_icmp0 X hx hd hf ho hp (fun h => kT (h_gt.1 h)) (fun h => kF (h_gt.2 h))
theorem w_if_gt (X : Stand p l e R s m args below meth c T locs cells slots) (hx : p.tables.exec = Jvm.exec) {x : Int32} {o : Int} {pt pf : Nat} (hd : decode c.code pc = .ok (.ifCond .gt o, 3)) (hf : pc + 3 = pf) (ho : 0 ≤ (pc : Int) + o) (hp : ((pc : Int) + o).toNat = pt)
    (kT : 0 < x → Go p e below s cm sm Q T (mkF m pt Ls St)) (kF : ¬ (0 < x) → Go p e below s cm sm Q T (mkF m pf Ls St)) : Go p e below s cm sm Q T (mkF m pc Ls (.int x :: St)) :=
  w_if0 X hx hd hf ho hp (fun h => kT (h_gt.1 h)) (fun h => kF (h_gt.2 h))
theorem w_ifL_gt (X : Stand p l e R s m args below meth c T locs cells slots) (hx : p.tables.exec = Jvm.exec) {x y : Int64} {o : Int} {pt pf : Nat} (hd : decode c.code pc = .ok (.ifCond .gt o, 3)) (hf : pc + 3 = pf) (ho : 0 ≤ (pc : Int) + o) (hp : ((pc : Int) + o).toNat = pt)
    (kT : y < x → Go p e below s cm sm Q T (mkF m pt Ls St)) (kF : ¬ (y < x) → Go p e below s cm sm Q T (mkF m pf Ls St)) : Go p e below s cm sm Q T (mkF m pc Ls (.int (lcmpW x y) :: St)) :=
  w_if_gt X hx hd hf ho hp (fun q => kT ((lw_gt x y).1 q)) (fun q => kF (fun r => q ((lw_gt x y).2 r)))
theorem w_icmp_le (X : Stand p l e R s m args below meth c T locs cells slots) (hx : p.tables.exec = Jvm.exec) {x y : Int32} {o : Int} {pt pf : Nat} (hd : decode c.code pc = .ok (.if_icmp .le o, 3)) (hf : pc + 3 = pf) (ho : 0 ≤ (pc : Int) + o) (hp : ((pc : Int) + o).toNat = pt)
    (kT : ¬ (y < x) → Go p e below s cm sm Q T (mkF m pt Ls St)) (kF : y < x → Go p e below s cm sm Q T (mkF m pf Ls St)) : Go p e below s cm sm Q T (mkF m pc Ls (.int y :: .int x :: St)) :=
  w_icmp0 X hx hd hf ho hp (fun h => kT (h_le.1 h)) (fun h => kF (h_le.2 h))
theorem w_if_le (X : Stand p l e R s m args below meth c T locs cells slots) (hx : p.tables.exec = Jvm.exec) {x : Int32} {o : Int} {pt pf : Nat} (hd : decode c.code pc = .ok (.ifCond .le o, 3)) (hf : pc + 3 = pf) (ho : 0 ≤ (pc : Int) + o) (hp : ((pc : Int) + o).toNat = pt)
    (kT : ¬ (0 < x) → Go p e below s cm sm Q T (mkF m pt Ls St)) (kF : 0 < x → Go p e below s cm sm Q T (mkF m pf Ls St)) : Go p e below s cm sm Q T (mkF m pc Ls (.int x :: St)) :=
  w_if0 X hx hd hf ho hp (fun h => kT (h_le.1 h)) (fun h => kF (h_le.2 h))
theorem w_ifL_le (X : Stand p l e R s m args below meth c T locs cells slots) (hx : p.tables.exec = Jvm.exec) {x y : Int64} {o : Int} {pt pf : Nat} (hd : decode c.code pc = .ok (.ifCond .le o, 3)) (hf : pc + 3 = pf) (ho : 0 ≤ (pc : Int) + o) (hp : ((pc : Int) + o).toNat = pt)
    (kT : ¬ (y < x) → Go p e below s cm sm Q T (mkF m pt Ls St)) (kF : y < x → Go p e below s cm sm Q T (mkF m pf Ls St)) : Go p e below s cm sm Q T (mkF m pc Ls (.int (lcmpW x y) :: St)) :=
  w_if_le X hx hd hf ho hp (fun q => kT (fun r => q ((lw_gt x y).2 r))) (fun q => kF ((lw_gt x y).1 q))
theorem w_icmp_eq (X : Stand p l e R s m args below meth c T locs cells slots) (hx : p.tables.exec = Jvm.exec) {x y : Int32} {o : Int} {pt pf : Nat} (hd : decode c.code pc = .ok (.if_icmp .eq o, 3)) (hf : pc + 3 = pf) (ho : 0 ≤ (pc : Int) + o) (hp : ((pc : Int) + o).toNat = pt)
    (kT : x = y → Go p e below s cm sm Q T (mkF m pt Ls St)) (kF : ¬ (x = y) → Go p e below s cm sm Q T (mkF m pf Ls St)) : Go p e below s cm sm Q T (mkF m pc Ls (.int y :: .int x :: St)) :=
  w_icmp0 X hx hd hf ho hp (fun h => kT (h_eq.1 h)) (fun h => kF (h_eq.2 h))
theorem w_if_eq (X : Stand p l e R s m args below meth c T locs cells slots) (hx : p.tables.exec = Jvm.exec) {x : Int32} {o : Int} {pt pf : Nat} (hd : decode c.code pc = .ok (.ifCond .eq o, 3)) (hf : pc + 3 = pf) (ho : 0 ≤ (pc : Int) + o) (hp : ((pc : Int) + o).toNat = pt)
    (kT : x = 0 → Go p e below s cm sm Q T (mkF m pt Ls St)) (kF : ¬ (x = 0) → Go p e below s cm sm Q T (mkF m pf Ls St)) : Go p e below s cm sm Q T (mkF m pc Ls (.int x :: St)) :=
  w_if0 X hx hd hf ho hp (fun h => kT (h_eq.1 h)) (fun h => kF (h_eq.2 h))
theorem w_ifL_eq (X : Stand p l e R s m args below meth c T locs cells slots) (hx : p.tables.exec = Jvm.exec) {x y : Int64} {o : Int} {pt pf : Nat} (hd : decode c.code pc = .ok (.ifCond .eq o, 3)) (hf : pc + 3 = pf) (ho : 0 ≤ (pc : Int) + o) (hp : ((pc : Int) + o).toNat = pt)
    (kT : x = y → Go p e below s cm sm Q T (mkF m pt Ls St)) (kF : ¬ (x = y) → Go p e below s cm sm Q T (mkF m pf Ls St)) : Go p e below s cm sm Q T (mkF m pc Ls (.int (lcmpW x y) :: St)) :=
  w_if_eq X hx hd hf ho hp (fun q => kT ((lw_eq x y).1 q)) (fun q => kF (fun r => q ((lw_eq x y).2 r)))
theorem w_icmp_ne (X : Stand p l e R s m args below meth c T locs cells slots) (hx : p.tables.exec = Jvm.exec) {x y : Int32} {o : Int} {pt pf : Nat} (hd : decode c.code pc = .ok (.if_icmp .ne o, 3)) (hf : pc + 3 = pf) (ho : 0 ≤ (pc : Int) + o) (hp : ((pc : Int) + o).toNat = pt)
    (kT : ¬ (x = y) → Go p e below s cm sm Q T (mkF m pt Ls St)) (kF : x = y → Go p e below s cm sm Q T (mkF m pf Ls St)) : Go p e below s cm sm Q T (mkF m pc Ls (.int y :: .int x :: St)) :=
  w_icmp0 X hx hd hf ho hp (fun h => kT (h_ne.1 h)) (fun h => kF (h_ne.2 h))
theorem w_if_ne (X : Stand p l e R s m args below meth c T locs cells slots) (hx : p.tables.exec = Jvm.exec) {x : Int32} {o : Int} {pt pf : Nat} (hd : decode c.code pc = .ok (.ifCond .ne o, 3)) (hf : pc + 3 = pf) (ho : 0 ≤ (pc : Int) + o) (hp : ((pc : Int) + o).toNat = pt)
    (kT : ¬ (x = 0) → Go p e below s cm sm Q T (mkF m pt Ls St)) (kF : x = 0 → Go p e below s cm sm Q T (mkF m pf Ls St)) : Go p e below s cm sm Q T (mkF m pc Ls (.int x :: St)) :=
  w_if0 X hx hd hf ho hp (fun h => kT (h_ne.1 h)) (fun h => kF (h_ne.2 h))
theorem w_ifL_ne (X : Stand p l e R s m args below meth c T locs cells slots) (hx : p.tables.exec = Jvm.exec) {x y : Int64} {o : Int} {pt pf : Nat} (hd : decode c.code pc = .ok (.ifCond .ne o, 3)) (hf : pc + 3 = pf) (ho : 0 ≤ (pc : Int) + o) (hp : ((pc : Int) + o).toNat = pt)
    (kT : ¬ (x = y) → Go p e below s cm sm Q T (mkF m pt Ls St)) (kF : x = y → Go p e below s cm sm Q T (mkF m pf Ls St)) : Go p e below s cm sm Q T (mkF m pc Ls (.int (lcmpW x y) :: St)) :=
  w_if_ne X hx hd hf ho hp (fun q => kT (fun r => q ((lw_eq x y).2 r))) (fun q => kF ((lw_eq x y).1 q))
theorem w_ldc (X : Stand p l e R s m args below meth c T locs cells slots) (hx : p.tables.exec = Jvm.exec) (hZ : Z.Warmed39 s.vm) {own : String} {index : Nat} {v : Int32} (hown : s.vm.findClass own = some m.cls) (w : (Jvm.Cond.constant own index v).before a0 Z = true) (hd : decode c.code pc = .ok (.ldc index, 2)) (hp : pc + 2 = pc')
    (kk : Go p e below s cm sm Q T (mkF m pc' Ls (.int v :: St))) : Go p e below s cm sm Q T (mkF m pc Ls St) := by
  subst hp
  exact Go.st (fun t q => X.ldcInt hx hown (mvT hZ w) (g := mkF m pc Ls St) rfl hd t q) kk
theorem w_ldcw (X : Stand p l e R s m args below meth c T locs cells slots) (hx : p.tables.exec = Jvm.exec) (hZ : Z.Warmed39 s.vm) {own : String} {index : Nat} {v : Int32} (hown : s.vm.findClass own = some m.cls) (w : (Jvm.Cond.constant own index v).before a0 Z = true) (hd : decode c.code pc = .ok (.ldc_w index, 3)) (hp : pc + 3 = pc')
    (kk : Go p e below s cm sm Q T (mkF m pc' Ls (.int v :: St))) : Go p e below s cm sm Q T (mkF m pc Ls St) := by
  subst hp
  exact Go.st (fun t q => X.ldcWI hx hown (mvT hZ w) (g := mkF m pc Ls St) rfl hd q) kk
theorem w_ldc2 (X : Stand p l e R s m args below meth c T locs cells slots) (hx : p.tables.exec = Jvm.exec) (hZ : Z.Warmed39 s.vm) {own : String} {index : Nat} {v : Int64} (hown : s.vm.findClass own = some m.cls) (w : (Jvm.Cond.constantLong own index v).before a0 Z = true) (hd : decode c.code pc = .ok (.ldc2_w index, 3)) (hp : pc + 3 = pc')
    (kk : Go p e below s cm sm Q T (mkF m pc' Ls (.long v :: St))) : Go p e below s cm sm Q T (mkF m pc Ls St) := by
  subst hp
  exact Go.st (fun t q => X.ldc2Long hx hown (mvT hZ w) (g := mkF m pc Ls St) rfl hd t q) kk
theorem w_retZ (X : Stand p l e R s m args below meth c T locs cells slots) (hx : p.tables.exec = Jvm.exec) (hret : meth.sig.returnType = some .boolean) (hlk : meth.locks = false) {z : Int32} (hd : decode c.code pc = .ok (.ireturn, 1)) (hc : cells ≤ cm) (hs : slots ≤ sm) (hQ : Q (some (.int (nar .boolean z))) T.heap locs) : Go p e below s cm sm Q T (mkF m pc Ls (.int z :: St)) := by
  obtain ⟨fs, hr, hrun, hended, hW, hsame⟩ := X.leave (v := some (.int (nar .boolean z))) (fun h => by rw [hret] at h; cases h) hlk
  exact ⟨_, _, retN X hx (t := .boolean) hret (by simp) hd hr, hrun, hended, _, _, rfl, hQ, ⟨_, rfl⟩, hW, hsame.mono hc hs⟩
theorem w_retB (X : Stand p l e R s m args below meth c T locs cells slots) (hx : p.tables.exec = Jvm.exec) (hret : meth.sig.returnType = some .byte) (hlk : meth.locks = false) {z : Int32} (hd : decode c.code pc = .ok (.ireturn, 1)) (hc : cells ≤ cm) (hs : slots ≤ sm) (hQ : Q (some (.int (nar .byte z))) T.heap locs) : Go p e below s cm sm Q T (mkF m pc Ls (.int z :: St)) := by
  obtain ⟨fs, hr, hrun, hended, hW, hsame⟩ := X.leave (v := some (.int (nar .byte z))) (fun h => by rw [hret] at h; cases h) hlk
  exact ⟨_, _, retN X hx (t := .byte) hret (by simp) hd hr, hrun, hended, _, _, rfl, hQ, ⟨_, rfl⟩, hW, hsame.mono hc hs⟩
theorem w_retC (X : Stand p l e R s m args below meth c T locs cells slots) (hx : p.tables.exec = Jvm.exec) (hret : meth.sig.returnType = some .char) (hlk : meth.locks = false) {z : Int32} (hd : decode c.code pc = .ok (.ireturn, 1)) (hc : cells ≤ cm) (hs : slots ≤ sm) (hQ : Q (some (.int (nar .char z))) T.heap locs) : Go p e below s cm sm Q T (mkF m pc Ls (.int z :: St)) := by
  obtain ⟨fs, hr, hrun, hended, hW, hsame⟩ := X.leave (v := some (.int (nar .char z))) (fun h => by rw [hret] at h; cases h) hlk
  exact ⟨_, _, retN X hx (t := .char) hret (by simp) hd hr, hrun, hended, _, _, rfl, hQ, ⟨_, rfl⟩, hW, hsame.mono hc hs⟩
theorem w_retS (X : Stand p l e R s m args below meth c T locs cells slots) (hx : p.tables.exec = Jvm.exec) (hret : meth.sig.returnType = some .short) (hlk : meth.locks = false) {z : Int32} (hd : decode c.code pc = .ok (.ireturn, 1)) (hc : cells ≤ cm) (hs : slots ≤ sm) (hQ : Q (some (.int (nar .short z))) T.heap locs) : Go p e below s cm sm Q T (mkF m pc Ls (.int z :: St)) := by
  obtain ⟨fs, hr, hrun, hended, hW, hsame⟩ := X.leave (v := some (.int (nar .short z))) (fun h => by rw [hret] at h; cases h) hlk
  exact ⟨_, _, retN X hx (t := .short) hret (by simp) hd hr, hrun, hended, _, _, rfl, hQ, ⟨_, rfl⟩, hW, hsame.mono hc hs⟩
theorem w_retI (X : Stand p l e R s m args below meth c T locs cells slots) (hx : p.tables.exec = Jvm.exec) (hret : meth.sig.returnType = some .int) (hlk : meth.locks = false) {z : Int32} (hd : decode c.code pc = .ok (.ireturn, 1)) (hc : cells ≤ cm) (hs : slots ≤ sm) (hQ : Q (some (.int z)) T.heap locs) : Go p e below s cm sm Q T (mkF m pc Ls (.int z :: St)) := by
  obtain ⟨fs, hr, hrun, hended, hW, hsame⟩ := X.leave (v := some (.int z)) (fun h => by rw [hret] at h; cases h) hlk
  refine ⟨T.setFrames fs, _, ?_, hrun, hended, _, _, rfl, hQ, ⟨_, rfl⟩, hW, hsame.mono hc hs⟩
  have hm' : T.vm.method? m = some meth := X.method'
  have hn : narrow .int (.int z) = .int z := rfl
  show Steps p.tables e below (T.setTop { method := m, pc := pc, locals := Ls, stack := .int z :: St, locked := none }) _
  jvm_step X.here [X.here.top, hx, hd, hm', hret, hn]
  first | (intro acts; rw [hr _ acts rfl rfl rfl]) | rw [hr _ _ rfl rfl rfl]
  exact Steps.refl _
theorem w_retJ (X : Stand p l e R s m args below meth c T locs cells slots) (hx : p.tables.exec = Jvm.exec) (hret : meth.sig.returnType = some .long) (hlk : meth.locks = false) {z : Int64} (hd : decode c.code pc = .ok (.lreturn, 1)) (hc : cells ≤ cm) (hs : slots ≤ sm) (hQ : Q (some (.long z)) T.heap locs) : Go p e below s cm sm Q T (mkF m pc Ls [.long z]) := by
  obtain ⟨fs, hr, hrun, hended, hW, hsame⟩ := X.leave (v := some (.long z)) (fun h => by rw [hret] at h; cases h) hlk
  exact ⟨T.setFrames fs, _, X.lreturnOut hx hret hd hr, hrun, hended, _, _, rfl, hQ, ⟨_, rfl⟩, hW, hsame.mono hc hs⟩
theorem w_retV (X : Stand p l e R s m args below meth c T locs cells slots) (hx : p.tables.exec = Jvm.exec) (hret : meth.sig.returnType = none) (hlk : meth.locks = false) (hd : decode c.code pc = .ok (.return_, 1)) (hc : cells ≤ cm) (hs : slots ≤ sm) (hQ : Q none T.heap locs) : Go p e below s cm sm Q T (mkF m pc Ls []) := by
  obtain ⟨fs, hr, hrun, hended, hW, hsame⟩ := X.leave (v := none) (fun _ => rfl) hlk
  exact ⟨T.setFrames fs, _, X.returnOut hx hret hd hr, hrun, hended, _, _, rfl, hQ, ⟨_, rfl⟩, hW, hsame.mono hc hs⟩
theorem w_retA (X : Stand p l e R s m args below meth c T locs cells slots) (hx : p.tables.exec = Jvm.exec) {rt : FieldType} (hret : meth.sig.returnType = some rt) (hrt : rt.isReference = true) (hlk : meth.locks = false) {a : Addr} (hd : decode c.code pc = .ok (.areturn, 1)) (hc : cells ≤ cm) (hs : slots ≤ sm) (hQ : Q (some (.ref a)) T.heap locs) : Go p e below s cm sm Q T (mkF m pc Ls (.ref a :: St)) := by
  obtain ⟨fs, hr, hrun, hended, hW, hsame⟩ := X.leave (v := some (.ref a)) (fun h => by rw [hret] at h; cases h) hlk
  refine ⟨T.setFrames fs, _, ?_, hrun, hended, _, _, rfl, hQ, ⟨_, rfl⟩, hW, hsame.mono hc hs⟩
  have hm' : T.vm.method? m = some meth := X.method'
  show Steps p.tables e below (T.setTop { method := m, pc := pc, locals := Ls, stack := .ref a :: St, locked := none }) _
  jvm_step X.here [X.here.top, hx, hd, hm', hret, Value.isRef, hrt]
  first | (intro acts; rw [hr _ acts rfl rfl rfl]) | rw [hr _ _ rfl rfl rfl]
  exact Steps.refl _
theorem Con.back {y : MethodName} {bytes : ByteArray} {maxL : Nat} {ret : Option FieldType} {rm : Room} {len W : Nat} {as' : Array Value} {Qc : Option Value → Heap → List Loc → Prop} (C : Con l Z y bytes maxL ret rm as' h Qc) (hZ : Z.Warmed39 s.vm) (wc : (Jvm.Cond.code y bytes maxL ret).before a0 Z = true) (wz : (Jvm.Cond.initialized y.cls).before a0 Z = true) (hf : rm.frames + 1 ≤ R.frames) (hl : W + (maxL + 11) + rm.locals ≤ R.locals) :
    Back l R p e below s args y len W (fun A a => a = as' ∧ A.U.heap = h ∧ A.cells + rm.cells ≤ R.cells ∧ A.slots + rm.slots ≤ R.slots) (fun A _ v B => ∃ L, Qc v B.U.heap L ∧ B.locs = A.locs ++ L ∧ B.cells = A.cells + rm.cells ∧ B.slots = A.slots + rm.slots) :=
  backOf (C []) hZ wc wz hf hl
theorem w_callS (X : Stand p l e R s m args below meth c T locs cells slots) (hx : p.tables.exec = Jvm.exec) (hZ : Z.Warmed39 s.vm) {own : String} {index : Nat} {y : MethodName} {bytes : ByteArray} {maxL : Nat} {ret : Option FieldType} {rm : Room} {W : Nat} {argsL rest : List Value} {Qc : Option Value → Heap → List Loc → Prop} (hown : s.vm.findClass own = some m.cls) (eT : T.heap = h) (C : Con l Z y bytes maxL ret rm argsL.toArray h Qc) (w1 : (Jvm.Cond.methodLink own index y).before a0 Z = true) (w2 : (Jvm.Cond.static y).before a0 Z = true) (w3 : (Jvm.Cond.initialized y.cls).before a0 Z = true) (w4 : (Jvm.Cond.code y bytes maxL ret).before a0 Z = true) (hy : y.cls ≠ "java/lang/invoke/MethodHandle" ∧ y.cls ≠ "java/lang/invoke/VarHandle")
    (hf : rm.frames + 1 ≤ R.frames) (hl : W + (maxL + 11) + rm.locals ≤ R.locals) (hc : cells + rm.cells ≤ R.cells) (hs : slots + rm.slots ≤ R.slots) (hsz : Ls.size = c.maxLocals) (hlen : ∀ sig, parseMethodDescriptor y.desc = some sig → argsL.length = sig.parameters.length) (hW : (rest.map fun v => v.category).sum ≤ W) (hst : St = argsL.reverse ++ rest) (hd : decode c.code pc = .ok (.invokestatic index, 3)) (hp : pc + 3 = pc')
    (kk : ∀ (T' : State) (L : List Loc) (v : Option Value), Stand p l e R s m args below meth c T' (locs ++ L) (cells + rm.cells) (slots + rm.slots) → Qc v T'.heap L → Go p e below s cm sm Q T' (mkF m pc' Ls (v.toList ++ rest))) : Go p e below s cm sm Q T (mkF m pc Ls St) := by
  subst hp hst
  obtain ⟨v, _, ⟨T1, L1, k1, n1⟩, -, X1, ⟨Lc, hQ, l1, y1, z1⟩, st⟩ := Jvm.LawKit.callS X hx (y := y) hown (mvT hZ w1) (mvT hZ w2) (mvT hZ w3) (mvT hZ w4) hy (C.back (W := W) hZ w4 w3 hf hl) (g := mkF m pc Ls (argsL.reverse ++ rest)) rfl hsz (argsL := argsL) (rest := rest) hlen rfl (by show 2 * 0 + _ ≤ _; rw [Nat.mul_zero, Nat.zero_add]; exact hW) hd (fun _ _ => ⟨rfl, eT, hc, hs⟩)
  dsimp only [Pt.U, Pt.locs, Pt.cells, Pt.slots] at X1 l1 y1 z1 st hQ
  subst l1 y1 z1
  exact Go.st st (kk _ _ _ X1 hQ)
theorem w_callI (X : Stand p l e R s m args below meth c T locs cells slots) (hx : p.tables.exec = Jvm.exec) (hZ : Z.Warmed39 s.vm) {own : String} {index : Nat} {y : MethodName} {bytes : ByteArray} {maxL : Nat} {rm : Room} {W : Nat} {argsL rest : List Value} {Qc : Option Value → Heap → List Loc → Prop} {a : Addr} (hown : s.vm.findClass own = some m.cls) (eT : T.heap = h) (C : Con l Z y bytes maxL none rm (.ref a :: argsL).toArray h Qc) (hn : y.name = "<init>") (w1 : (Jvm.Cond.methodLink own index y).before a0 Z = true) (w2 : (Jvm.Cond.instanceMethod y).before a0 Z = true) (w3 : (Jvm.Cond.initialized y.cls).before a0 Z = true) (w4 : (Jvm.Cond.code y bytes maxL none).before a0 Z = true) (hy : y.cls ≠ "java/lang/invoke/MethodHandle" ∧ y.cls ≠ "java/lang/invoke/VarHandle")
    (hf : rm.frames + 1 ≤ R.frames) (hl : W + (maxL + 11) + rm.locals ≤ R.locals) (hc : cells + rm.cells ≤ R.cells) (hs : slots + rm.slots ≤ R.slots) (hsz : Ls.size = c.maxLocals) (hlen : ∀ sig, parseMethodDescriptor y.desc = some sig → argsL.length = sig.parameters.length) (hW : (rest.map fun v => v.category).sum ≤ W) (hst : St = argsL.reverse ++ .ref a :: rest) (hd : decode c.code pc = .ok (.invokespecial index, 3)) (hp : pc + 3 = pc')
    (kk : ∀ (T' : State) (L : List Loc) (v : Option Value), Stand p l e R s m args below meth c T' (locs ++ L) (cells + rm.cells) (slots + rm.slots) → Qc v T'.heap L → Go p e below s cm sm Q T' (mkF m pc' Ls (v.toList ++ rest))) : Go p e below s cm sm Q T (mkF m pc Ls St) := by
  subst hp hst
  obtain ⟨v, _, ⟨T1, L1, k1, n1⟩, -, X1, ⟨Lc, hQ, l1, y1, z1⟩, st⟩ := X.specialBack hx (y := y) hn hown (mvT hZ w1) (mvT hZ w2) (mvT hZ w4) hy (C.back (W := W) hZ w4 w3 hf hl) (g := mkF m pc Ls (argsL.reverse ++ .ref a :: rest)) rfl hsz (Steps.refl _) (a := a) (argsL := argsL) (rest := rest) hlen rfl (by show 2 * 0 + _ ≤ _; rw [Nat.mul_zero, Nat.zero_add]; exact hW) hd (fun _ _ => ⟨rfl, eT, hc, hs⟩)
  dsimp only [Pt.U, Pt.locs, Pt.cells, Pt.slots] at X1 l1 y1 z1 st hQ
  subst l1 y1 z1
  exact Go.st (fun t q => st.trans q) (kk _ _ _ X1 hQ)
theorem w_callV (X : Stand p l e R s m args below meth c T locs cells slots) (hx : p.tables.exec = Jvm.exec) (hZ : Z.Warmed39 s.vm) {own : String} {index : Nat} {y : MethodName} {bytes : ByteArray} {maxL : Nat} {ret : Option FieldType} {rm : Room} {W : Nat} {argsL rest : List Value} {Qc : Option Value → Heap → List Loc → Prop} {a : Addr} (hown : s.vm.findClass own = some m.cls) (eT : T.heap = h) (E : Exa Z h a y.cls) (C : Con l Z y bytes maxL ret rm (.ref a :: argsL).toArray h Qc) (w1 : (Jvm.Cond.methodLink own index y).before a0 Z = true) (wd : (Jvm.Cond.declares y).before a0 Z = true) (ws : (Jvm.Cond.selects y.cls y y).before a0 Z = true) (w2 : (Jvm.Cond.instanceMethod y).before a0 Z = true) (w3 : (Jvm.Cond.initialized y.cls).before a0 Z = true) (w4 : (Jvm.Cond.code y bytes maxL ret).before a0 Z = true) (hy : y.cls ≠ "java/lang/invoke/MethodHandle" ∧ y.cls ≠ "java/lang/invoke/VarHandle")
    (hf : rm.frames + 1 ≤ R.frames) (hl : W + (maxL + 11) + rm.locals ≤ R.locals) (hc : cells + rm.cells ≤ R.cells) (hs : slots + rm.slots ≤ R.slots) (hsz : Ls.size = c.maxLocals) (hlen : ∀ sig, parseMethodDescriptor y.desc = some sig → argsL.length = sig.parameters.length) (hW : (rest.map fun v => v.category).sum ≤ W) (hst : St = argsL.reverse ++ .ref a :: rest) (hd : decode c.code pc = .ok (.invokevirtual index, 3)) (hp : pc + 3 = pc')
    (kk : ∀ (T' : State) (L : List Loc) (v : Option Value), Stand p l e R s m args below meth c T' (locs ++ L) (cells + rm.cells) (slots + rm.slots) → Qc v T'.heap L → Go p e below s cm sm Q T' (mkF m pc' Ls (v.toList ++ rest))) : Go p e below s cm sm Q T (mkF m pc Ls St) := by
  subst hp hst
  obtain ⟨cq, kq, qa, qb, qc⟩ := isOf hZ eT E
  obtain ⟨v, _, ⟨T1, L1, k1, n1⟩, -, X1, ⟨Lc, hQ, l1, y1, z1⟩, st⟩ := X.virtualBack hx (y := y) (z := y) hown (mvT hZ w1) (mvT hZ wd) (notFace_of_selects (args := #[]) (mvT hZ ws)) (mvT hZ ws) (mvT hZ w2) hy (C.back (W := W) hZ w4 w3 hf hl) qa qc (g := mkF m pc Ls (argsL.reverse ++ .ref a :: rest)) rfl hsz (Steps.refl _) (argsL := argsL) (rest := rest) hlen rfl (by show 2 * 0 + _ ≤ _; rw [Nat.mul_zero, Nat.zero_add]; exact hW) hd (fun _ _ => ⟨rfl, eT, hc, hs⟩)
  dsimp only [Pt.U, Pt.locs, Pt.cells, Pt.slots] at X1 l1 y1 z1 st hQ
  subst l1 y1 z1
  exact Go.st (fun t q => st.trans q) (kk _ _ _ X1 hQ)
theorem w_initO (X : Stand p l e R s m args below meth c T locs cells slots) (hx : p.tables.exec = Jvm.exec) (hZ : Z.Warmed39 s.vm) {own : String} {index : Nat} {a : Addr} (hown : s.vm.findClass own = some m.cls) (eT : T.heap = h) (w1 : (Jvm.Cond.methodLink own index Lib.objectInit).before a0 Z = true) (w2 : (Jvm.Cond.instanceMethod Lib.objectInit).before a0 Z = true) (w3 : (Jvm.Cond.code Lib.objectInit ⟨#[0xb1]⟩ 1 none).before a0 Z = true) (hsz : Ls.size = c.maxLocals) (hd : decode c.code pc = .ok (.invokespecial index, 3)) (hf : 1 ≤ R.frames) {W : Nat} (hW : (St.map fun v => v.category).sum ≤ W) (hl : W + 12 ≤ R.locals) (hp : pc + 3 = pc')
    (kk : ∀ T' : State, Stand p l e R s m args below meth c T' locs cells slots → T'.heap = h → Go p e below s cm sm Q T' (mkF m pc' Ls St)) : Go p e below s cm sm Q T (mkF m pc Ls (.ref a :: St)) := by
  subst hp
  obtain ⟨T1, X1, e1, st⟩ := initO X hx hZ hown w1 w2 w3 eT (g := mkF m pc Ls (.ref a :: St)) rfl hsz rfl hd hf (W := W) (by show 2 * 0 + _ ≤ _; rw [Nat.mul_zero, Nat.zero_add]; exact hW) hl
  exact Go.st st (kk _ X1 e1)
theorem w_getF (X : Stand p l e R s m args below meth c T locs cells slots) (hx : p.tables.exec = Jvm.exec) (hZ : Z.Warmed39 s.vm) {own O n d : String} {index : Nat} {a : Addr} {v : Value} (hown : s.vm.findClass own = some m.cls) (eT : T.heap = h) (F : Fld Z h a O n d v) (w : (Jvm.Cond.fieldLink own index O n d).before a0 Z = true) (hd : decode c.code pc = .ok (.getfield index, 3)) (hp : pc + 3 = pc')
    (kk : ∀ T' : State, Stand p l e R s m args below meth c T' locs cells slots → T'.heap = h → Go p e below s cm sm Q T' (mkF m pc' Ls (v :: St))) : Go p e below s cm sm Q T (mkF m pc Ls (.ref a :: St)) := by
  subst hp
  obtain ⟨T1, X1, e1, st⟩ := getF X hx hZ hown (host := "") (Or.inl w) Via.refl eT F (g := mkF m pc Ls (.ref a :: St)) rfl rfl hd
  exact Go.st st (kk _ X1 e1)
theorem w_putF (X : Stand p l e R s m args below meth c T locs cells slots) (hx : p.tables.exec = Jvm.exec) (hZ : Z.Warmed39 s.vm) {own O n d C : String} {index kn : Nat} {ty : FieldType} {a : Addr} {v old : Value} (hown : s.vm.findClass own = some m.cls) (eT : T.heap = h) (F : Fld Z h a O n d old) (E : Exa Z h a C) (w : (Jvm.Cond.fieldLink own index O n d).before a0 Z = true) (L : (Jvm.Cond.lays C O n d).before a0 Z = true ∨ ((Jvm.Cond.laysFinal C O n d).before a0 Z = true ∧ own = O ∧ meth.name = "<init>")) (wi : (Jvm.Cond.instantiable C kn).before a0 Z = true) (hty : parseFieldDescriptor d = some ty) (hn : narrow ty v = v) (hf : fits ty v = true) (hd : decode c.code pc = .ok (.putfield index, 3)) (hp : pc + 3 = pc')
    (kk : ∀ (T' : State) (h' : Heap), Stand p l e R s m args below meth c T' (locs ++ [⟨a, RoadKit.slotOf Z O n d⟩]) cells slots → T'.heap = h' → Wr h h' a (RoadKit.slotOf Z O n d) v → Go p e below s cm sm Q T' (mkF m pc' Ls St)) : Go p e below s cm sm Q T (mkF m pc Ls (v :: .ref a :: St)) := by
  subst hp
  obtain ⟨T1, h1, X1, e1, W1, st⟩ := putF X hx hZ hown (host := "") (Or.inl w) Via.refl eT F E L wi hty hn hf (g := mkF m pc Ls (v :: .ref a :: St)) rfl rfl hd
  exact Go.st st (kk _ _ X1 e1 W1)
theorem w_newO (X : Stand p l e R s m args below meth c T locs cells slots) (hx : p.tables.exec = Jvm.exec) (hZ : Z.Warmed39 s.vm) {own C : String} {index kn : Nat} (hown : s.vm.findClass own = some m.cls) (eT : T.heap = h) (w : (Jvm.Cond.classLink own index C).before a0 Z = true) (wi : (Jvm.Cond.instantiable C kn).before a0 Z = true) (wz : (Jvm.Cond.initialized C).before a0 Z = true) (hd : decode c.code pc = .ok (.new index, 3)) (hc : cells + 1 ≤ R.cells) (hl : slots + kn ≤ R.slots) (hp : pc + 3 = pc')
    (kk : ∀ (T' : State) (h' : Heap) (b : Addr), Stand p l e R s m args below meth c T' locs (cells + 1) (slots + kn) → T'.heap = h' → Ext h h' → b = h.size → Exa Z h' b C → (∀ {O nm d : String} {ty : FieldType}, Laid Z a0 C O nm d → parseFieldDescriptor d = some ty → Fld Z h' b O nm d (defaultValue ty)) → Go p e below s cm sm Q T' (mkF m pc' Ls (.ref b :: St))) : Go p e below s cm sm Q T (mkF m pc Ls St) := by
  subst hp
  obtain ⟨T1, h1, X1, e1, E1, A1, D1, -, st⟩ := newO X hx hZ hown w wi wz eT (g := mkF m pc Ls St) rfl hd hc hl
  exact Go.st st (kk _ _ _ X1 e1 E1 rfl A1 D1)
/-- an array of ints, bytes, chars, shorts or booleans, by its list -/
def AI (Z : State) (h : Heap) (a : Addr) (ty : FieldType) (vs : List Int32) : Prop := ∃ c : Cell, Arr Z h a c ty ∧ c.slots.toList = vs.map Value.int ∧ vs.length < 2147483648
/-- an array of longs, by its list -/
def AJ (Z : State) (h : Heap) (a : Addr) (vs : List Int64) : Prop := ∃ c : Cell, Arr Z h a c .long ∧ c.slots.toList = vs.map Value.long ∧ vs.length < 2147483648
theorem AI.lt {a : Addr} {ty : FieldType} {vs : List Int32} (F : AI Z h a ty vs) : a < h.size := by obtain ⟨c, q, -⟩ := F; exact q.lt
theorem AI.ext {a : Addr} {ty : FieldType} {vs : List Int32} (F : AI Z h a ty vs) (E : Ext h h') : AI Z h' a ty vs := by obtain ⟨c, q, r⟩ := F; exact ⟨c, q.ext E, r⟩
theorem AI.other {a b : Addr} {ty : FieldType} {vs : List Int32} {sl : Nat} {v : Value} (F : AI Z h a ty vs) (W : Wr h h' b sl v) (q : a ≠ b) : AI Z h' a ty vs := by obtain ⟨c, A, r⟩ := F; exact ⟨c, A.other W q, r⟩
theorem AI.keep {a : Addr} {ty : FieldType} {vs : List Int32} {ws : List Addr} (F : AI Z h a ty vs) (K : Keep h h' ws) (q : a ∉ ws) : AI Z h' a ty vs := by obtain ⟨c, A, r⟩ := F; exact ⟨c, ⟨K.2.1 a c A.1 q, A.2⟩, r⟩
theorem AI.new {a : Addr} {k : ClassId} {z : Int32} {ty : FieldType} (A : Arr Z h a (newA k ty z) ty) (hd : defaultValue ty = .int 0) : AI Z h a ty (List.replicate z.toNatClampNeg 0) := by
  refine ⟨_, A, ?_, ?_⟩
  · simp [newA, hd]
  · have := z.toInt_lt; rw [List.length_replicate]; show z.toInt.toNat < _; omega
theorem AI.wr {a : Addr} {ty : FieldType} {vs : List Int32} {j : Nat} {x : Int32} (F : AI Z h a ty vs) (W : Wr h h' a j (Value.int x)) : AI Z h' a ty (vs.set j x) := by
  obtain ⟨c, A, q, r⟩ := F
  refine ⟨_, A.same W, ?_, by simpa using r⟩
  simp [Cell.setSlot, q, List.map_set]
theorem AI.len {a : Addr} {ty : FieldType} {vs : List Int32} (F : AI Z h a ty vs) : vs.length < 2147483648 := by obtain ⟨c, q, r, t⟩ := F; exact t
theorem AI.sz {vs : List Int32} {c : Cell} (q : c.slots.toList = vs.map Value.int) : c.slots.size = vs.length := by
  have := congrArg List.length q; simpa using this
theorem AI.at {vs : List Int32} {c : Cell} {j : Nat} {x : Int32} (q : c.slots.toList = vs.map Value.int) (hv : vs[j]? = some x) : c.slots[j]? = some (Value.int x) := by
  rw [← Array.getElem?_toList, q]; simp [hv]
theorem AI.inb {vs : List Int32} {c : Cell} {j : Int32} (q : c.slots.toList = vs.map Value.int) (hj : ¬ j < 0) (hl : j.toNatClampNeg < vs.length) : ¬ (j < 0 ∨ c.slots.size ≤ j.toNatClampNeg) := by
  have := AI.sz q
  rw [this]
  rintro (r | r)
  · exact hj r
  · omega
theorem AJ.lt {a : Addr} {vs : List Int64} (F : AJ Z h a vs) : a < h.size := by obtain ⟨c, q, -⟩ := F; exact q.lt
theorem AJ.ext {a : Addr} {vs : List Int64} (F : AJ Z h a vs) (E : Ext h h') : AJ Z h' a vs := by obtain ⟨c, q, r⟩ := F; exact ⟨c, q.ext E, r⟩
theorem AJ.other {a b : Addr} {vs : List Int64} {sl : Nat} {v : Value} (F : AJ Z h a vs) (W : Wr h h' b sl v) (q : a ≠ b) : AJ Z h' a vs := by obtain ⟨c, A, r⟩ := F; exact ⟨c, A.other W q, r⟩
theorem AJ.keep {a : Addr} {vs : List Int64} {ws : List Addr} (F : AJ Z h a vs) (K : Keep h h' ws) (q : a ∉ ws) : AJ Z h' a vs := by obtain ⟨c, A, r⟩ := F; exact ⟨c, ⟨K.2.1 a c A.1 q, A.2⟩, r⟩
theorem AJ.new {a : Addr} {k : ClassId} {z : Int32} (A : Arr Z h a (newA k .long z) .long) : AJ Z h a (List.replicate z.toNatClampNeg 0) := by
  refine ⟨_, A, ?_, ?_⟩
  · simp [newA, defaultValue]
  · have := z.toInt_lt; rw [List.length_replicate]; show z.toInt.toNat < _; omega
theorem AJ.wr {a : Addr} {vs : List Int64} {j : Nat} {x : Int64} (F : AJ Z h a vs) (W : Wr h h' a j (Value.long x)) : AJ Z h' a (vs.set j x) := by
  obtain ⟨c, A, q, r⟩ := F
  refine ⟨_, A.same W, ?_, by simpa using r⟩
  simp [Cell.setSlot, q, List.map_set]
theorem AJ.len {a : Addr} {vs : List Int64} (F : AJ Z h a vs) : vs.length < 2147483648 := by obtain ⟨c, q, r, t⟩ := F; exact t
theorem AJ.sz {vs : List Int64} {c : Cell} (q : c.slots.toList = vs.map Value.long) : c.slots.size = vs.length := by
  have := congrArg List.length q; simpa using this
theorem AJ.at {vs : List Int64} {c : Cell} {j : Nat} {x : Int64} (q : c.slots.toList = vs.map Value.long) (hv : vs[j]? = some x) : c.slots[j]? = some (Value.long x) := by
  rw [← Array.getElem?_toList, q]; simp [hv]
theorem AJ.inb {vs : List Int64} {c : Cell} {j : Int32} (q : c.slots.toList = vs.map Value.long) (hj : ¬ j < 0) (hl : j.toNatClampNeg < vs.length) : ¬ (j < 0 ∨ c.slots.size ≤ j.toNatClampNeg) := by
  have := AJ.sz q
  rw [this]
  rintro (r | r)
  · exact hj r
  · omega
theorem w_iaload (X : Stand p l e R s m args below meth c T locs cells slots) (hx : p.tables.exec = Jvm.exec) (hZ : Z.Warmed39 s.vm) {a : Addr} {vs : List Int32} {j : Int32} {v : Int32} (eT : T.heap = h) (F : AI Z h a .int vs) (hj : ¬ j < 0) (hv : vs[j.toNatClampNeg]? = some v) (hd : decode c.code pc = .ok (.iaload, 1)) (hp : pc + 1 = pc')
    (kk : Go p e below s cm sm Q T (mkF m pc' Ls (Value.int v :: St))) : Go p e below s cm sm Q T (mkF m pc Ls (.int j :: .ref a :: St)) := by
  subst hp
  obtain ⟨cl, A, q, r⟩ := F
  exact Go.st (fun t k => X.iaload hx (j := j) (v := Value.int v) (by rw [eT]; exact A.1) (State.isArrayOf_alike hZ.alike A.2.1) A.2.2 (AI.inb q hj (List.getElem?_eq_some_iff.mp hv).1) (AI.at q hv) (g := mkF m pc Ls (.int j :: .ref a :: St)) rfl rfl hd t k) kk
theorem w_baload (X : Stand p l e R s m args below meth c T locs cells slots) (hx : p.tables.exec = Jvm.exec) (hZ : Z.Warmed39 s.vm) {a : Addr} {vs : List Int32} {j : Int32} {v : Int32} (eT : T.heap = h) (F : AI Z h a .byte vs) (hj : ¬ j < 0) (hv : vs[j.toNatClampNeg]? = some v) (hd : decode c.code pc = .ok (.baload, 1)) (hp : pc + 1 = pc')
    (kk : Go p e below s cm sm Q T (mkF m pc' Ls (Value.int v :: St))) : Go p e below s cm sm Q T (mkF m pc Ls (.int j :: .ref a :: St)) := by
  subst hp
  obtain ⟨cl, A, q, r⟩ := F
  exact Go.st (fun t k => X.baloadBytes hx (j := j) (v := Value.int v) (by rw [eT]; exact A.1) (State.isArrayOf_alike hZ.alike A.2.1) A.2.2 (AI.inb q hj (List.getElem?_eq_some_iff.mp hv).1) (AI.at q hv) (g := mkF m pc Ls (.int j :: .ref a :: St)) rfl rfl hd t k) kk
theorem w_laload (X : Stand p l e R s m args below meth c T locs cells slots) (hx : p.tables.exec = Jvm.exec) (hZ : Z.Warmed39 s.vm) {a : Addr} {vs : List Int64} {j : Int32} {v : Int64} (eT : T.heap = h) (F : AJ Z h a vs) (hj : ¬ j < 0) (hv : vs[j.toNatClampNeg]? = some v) (hd : decode c.code pc = .ok (.laload, 1)) (hp : pc + 1 = pc')
    (kk : Go p e below s cm sm Q T (mkF m pc' Ls (Value.long v :: St))) : Go p e below s cm sm Q T (mkF m pc Ls (.int j :: .ref a :: St)) := by
  subst hp
  obtain ⟨cl, A, q, r⟩ := F
  exact Go.st (fun t k => X.laload hx (j := j) (v := Value.long v) (by rw [eT]; exact A.1) (State.isArrayOf_alike hZ.alike A.2.1) A.2.2 (AJ.inb q hj (List.getElem?_eq_some_iff.mp hv).1) (AJ.at q hv) (g := mkF m pc Ls (.int j :: .ref a :: St)) rfl rfl hd t k) kk
theorem w_iastore (X : Stand p l e R s m args below meth c T locs cells slots) (hx : p.tables.exec = Jvm.exec) (hZ : Z.Warmed39 s.vm) {a : Addr} {vs : List Int32} {j : Int32} {x : Int32} (eT : T.heap = h) (F : AI Z h a .int vs) (hj : ¬ j < 0) (hl : j.toNatClampNeg < vs.length) (hd : decode c.code pc = .ok (.iastore, 1)) (hp : pc + 1 = pc')
    (kk : ∀ (T' : State) (h' : Heap), Stand p l e R s m args below meth c T' (locs ++ [⟨a, j.toNatClampNeg⟩]) cells slots → T'.heap = h' → Wr h h' a j.toNatClampNeg (Value.int x) → AI Z h' a .int (vs.set j.toNatClampNeg x) → Go p e below s cm sm Q T' (mkF m pc' Ls St)) : Go p e below s cm sm Q T (mkF m pc Ls (Value.int x :: .int j :: .ref a :: St)) := by
  subst hp
  obtain ⟨cl, A, q, r⟩ := F
  obtain ⟨T1, h1, X1, e1, W1, st⟩ := RoadKit.stI X hx hZ eT A (j := j) (x := x) (AI.inb q hj hl) (g := mkF m pc Ls (Value.int x :: .int j :: .ref a :: St)) rfl rfl hd
  exact Go.st st (kk _ _ X1 e1 W1 (AI.wr ⟨cl, A, q, r⟩ W1))
theorem w_bastore (X : Stand p l e R s m args below meth c T locs cells slots) (hx : p.tables.exec = Jvm.exec) (hZ : Z.Warmed39 s.vm) {a : Addr} {vs : List Int32} {j : Int32} {x : Int32} (eT : T.heap = h) (F : AI Z h a .byte vs) (hj : ¬ j < 0) (hl : j.toNatClampNeg < vs.length) (hd : decode c.code pc = .ok (.bastore, 1)) (hp : pc + 1 = pc')
    (kk : ∀ (T' : State) (h' : Heap), Stand p l e R s m args below meth c T' (locs ++ [⟨a, j.toNatClampNeg⟩]) cells slots → T'.heap = h' → Wr h h' a j.toNatClampNeg (Value.int (nar .byte x)) → AI Z h' a .byte (vs.set j.toNatClampNeg (nar .byte x)) → Go p e below s cm sm Q T' (mkF m pc' Ls St)) : Go p e below s cm sm Q T (mkF m pc Ls (Value.int x :: .int j :: .ref a :: St)) := by
  subst hp
  obtain ⟨cl, A, q, r⟩ := F
  obtain ⟨T1, h1, X1, e1, W1, st⟩ := RoadKit.stB X hx hZ eT A (j := j) (x := x) (AI.inb q hj hl) (g := mkF m pc Ls (Value.int x :: .int j :: .ref a :: St)) rfl rfl hd
  exact Go.st st (kk _ _ X1 e1 W1 (AI.wr ⟨cl, A, q, r⟩ W1))
theorem w_lastore (X : Stand p l e R s m args below meth c T locs cells slots) (hx : p.tables.exec = Jvm.exec) (hZ : Z.Warmed39 s.vm) {a : Addr} {vs : List Int64} {j : Int32} {x : Int64} (eT : T.heap = h) (F : AJ Z h a vs) (hj : ¬ j < 0) (hl : j.toNatClampNeg < vs.length) (hd : decode c.code pc = .ok (.lastore, 1)) (hp : pc + 1 = pc')
    (kk : ∀ (T' : State) (h' : Heap), Stand p l e R s m args below meth c T' (locs ++ [⟨a, j.toNatClampNeg⟩]) cells slots → T'.heap = h' → Wr h h' a j.toNatClampNeg (Value.long x) → AJ Z h' a (vs.set j.toNatClampNeg x) → Go p e below s cm sm Q T' (mkF m pc' Ls St)) : Go p e below s cm sm Q T (mkF m pc Ls (Value.long x :: .int j :: .ref a :: St)) := by
  subst hp
  obtain ⟨cl, A, q, r⟩ := F
  obtain ⟨T1, h1, X1, e1, W1, st⟩ := RoadKit.stJ X hx hZ eT A (j := j) (x := x) (AJ.inb q hj hl) (g := mkF m pc Ls (Value.long x :: .int j :: .ref a :: St)) rfl rfl hd
  exact Go.st st (kk _ _ X1 e1 W1 (AJ.wr ⟨cl, A, q, r⟩ W1))
theorem w_alenI (X : Stand p l e R s m args below meth c T locs cells slots) (hx : p.tables.exec = Jvm.exec) (hZ : Z.Warmed39 s.vm) {a : Addr} {ty : FieldType} {vs : List Int32} {n : Int32} (eT : T.heap = h) (F : AI Z h a ty vs) (hn : vs.length.toInt32 = n) (hd : decode c.code pc = .ok (.arraylength, 1)) (hp : pc + 1 = pc')
    (kk : Go p e below s cm sm Q T (mkF m pc' Ls (.int n :: St))) : Go p e below s cm sm Q T (mkF m pc Ls (.ref a :: St)) := by
  subst hp hn
  obtain ⟨cl, A, q, r⟩ := F
  have hs := AI.sz q
  exact Go.st (fun t k => X.arraylength hx (by rw [eT]; exact A.1) (State.isArrayOf_alike hZ.alike A.2.1) (g := mkF m pc Ls (.ref a :: St)) rfl rfl hd t (by rw [hs]; exact k)) kk
theorem w_alenJ (X : Stand p l e R s m args below meth c T locs cells slots) (hx : p.tables.exec = Jvm.exec) (hZ : Z.Warmed39 s.vm) {a : Addr} {vs : List Int64} {n : Int32} (eT : T.heap = h) (F : AJ Z h a vs) (hn : vs.length.toInt32 = n) (hd : decode c.code pc = .ok (.arraylength, 1)) (hp : pc + 1 = pc')
    (kk : Go p e below s cm sm Q T (mkF m pc' Ls (.int n :: St))) : Go p e below s cm sm Q T (mkF m pc Ls (.ref a :: St)) := by
  subst hp hn
  obtain ⟨cl, A, q, r⟩ := F
  have hs := AJ.sz q
  exact Go.st (fun t k => X.arraylength hx (by rw [eT]; exact A.1) (State.isArrayOf_alike hZ.alike A.2.1) (g := mkF m pc Ls (.ref a :: St)) rfl rfl hd t (by rw [hs]; exact k)) kk
theorem w_newI (X : Stand p l e R s m args below meth c T locs cells slots) (hx : p.tables.exec = Jvm.exec) (hZ : Z.Warmed39 s.vm) {n : Int32} {cap : Nat} (eT : T.heap = h) (w : (Jvm.Cond.arrayClass .int).before a0 Z = true) (hn : ¬ n < 0) (hcap : n.toNatClampNeg ≤ cap) (hb : cap * 8 ≤ 536870912) (hc : cells + 1 ≤ R.cells) (hl : slots + cap ≤ R.slots) (hd : decode c.code pc = .ok (.newarray .int, 2)) (hp : pc + 2 = pc')
    (kk : ∀ (T' : State) (h' : Heap) (b : Addr), Stand p l e R s m args below meth c T' locs (cells + 1) (slots + cap) → T'.heap = h' → Ext h h' → b = h.size → AI Z h' b .int (List.replicate n.toNatClampNeg 0) → Go p e below s cm sm Q T' (mkF m pc' Ls (.ref b :: St))) : Go p e below s cm sm Q T (mkF m pc Ls (.int n :: St)) := by
  subst hp
  obtain ⟨T1, h1, k1, X1, e1, E1, A1, st⟩ := newP X hx hZ (aty := .int) w eT (g := mkF m pc Ls (.int n :: St)) rfl hd rfl hn (cap := cap) hcap hb hc hl
  exact Go.st st (kk _ _ _ X1 e1 E1 rfl (AI.new A1 rfl))
theorem w_newB (X : Stand p l e R s m args below meth c T locs cells slots) (hx : p.tables.exec = Jvm.exec) (hZ : Z.Warmed39 s.vm) {n : Int32} {cap : Nat} (eT : T.heap = h) (w : (Jvm.Cond.arrayClass .byte).before a0 Z = true) (hn : ¬ n < 0) (hcap : n.toNatClampNeg ≤ cap) (hb : cap * 8 ≤ 536870912) (hc : cells + 1 ≤ R.cells) (hl : slots + cap ≤ R.slots) (hd : decode c.code pc = .ok (.newarray .byte, 2)) (hp : pc + 2 = pc')
    (kk : ∀ (T' : State) (h' : Heap) (b : Addr), Stand p l e R s m args below meth c T' locs (cells + 1) (slots + cap) → T'.heap = h' → Ext h h' → b = h.size → AI Z h' b .byte (List.replicate n.toNatClampNeg 0) → Go p e below s cm sm Q T' (mkF m pc' Ls (.ref b :: St))) : Go p e below s cm sm Q T (mkF m pc Ls (.int n :: St)) := by
  subst hp
  obtain ⟨T1, h1, k1, X1, e1, E1, A1, st⟩ := newP X hx hZ (aty := .byte) w eT (g := mkF m pc Ls (.int n :: St)) rfl hd rfl hn (cap := cap) hcap hb hc hl
  exact Go.st st (kk _ _ _ X1 e1 E1 rfl (AI.new A1 rfl))
theorem w_newJ (X : Stand p l e R s m args below meth c T locs cells slots) (hx : p.tables.exec = Jvm.exec) (hZ : Z.Warmed39 s.vm) {n : Int32} {cap : Nat} (eT : T.heap = h) (w : (Jvm.Cond.arrayClass .long).before a0 Z = true) (hn : ¬ n < 0) (hcap : n.toNatClampNeg ≤ cap) (hb : cap * 8 ≤ 536870912) (hc : cells + 1 ≤ R.cells) (hl : slots + cap ≤ R.slots) (hd : decode c.code pc = .ok (.newarray .long, 2)) (hp : pc + 2 = pc')
    (kk : ∀ (T' : State) (h' : Heap) (b : Addr), Stand p l e R s m args below meth c T' locs (cells + 1) (slots + cap) → T'.heap = h' → Ext h h' → b = h.size → AJ Z h' b (List.replicate n.toNatClampNeg 0) → Go p e below s cm sm Q T' (mkF m pc' Ls (.ref b :: St))) : Go p e below s cm sm Q T (mkF m pc Ls (.int n :: St)) := by
  subst hp
  obtain ⟨T1, h1, k1, X1, e1, E1, A1, st⟩ := newP X hx hZ (aty := .long) w eT (g := mkF m pc Ls (.int n :: St)) rfl hd rfl hn (cap := cap) hcap hb hc hl
  exact Go.st st (kk _ _ _ X1 e1 E1 rfl (AJ.new A1))
theorem w_callP (X : Stand p l e R s m args below meth c T locs cells slots) (hx : p.tables.exec = Jvm.exec) (hZ : Z.Warmed39 s.vm) {own : String} {index : Nat} {y : MethodName} {bytes : ByteArray} {maxL : Nat} {ret : Option FieldType} {rm : Room} {W : Nat} {argsL rest : List Value} {Qc : Option Value → Heap → List Loc → Prop} {a : Addr} (hown : s.vm.findClass own = some m.cls) (eT : T.heap = h) (E : Exa Z h a y.cls) (C : Con l Z y bytes maxL ret rm (.ref a :: argsL).toArray h Qc) (w1 : (Jvm.Cond.methodLink own index y).before a0 Z = true) (w2 : (Jvm.Cond.instanceMethod y).before a0 Z = true) (ws : (Jvm.Cond.selects y.cls y y).before a0 Z = true) (wp : (Jvm.Cond.privateMethod y).before a0 Z = true) (w3 : (Jvm.Cond.initialized y.cls).before a0 Z = true) (w4 : (Jvm.Cond.code y bytes maxL ret).before a0 Z = true) (hy : y.cls ≠ "java/lang/invoke/MethodHandle" ∧ y.cls ≠ "java/lang/invoke/VarHandle")
    (hf : rm.frames + 1 ≤ R.frames) (hl : W + (maxL + 11) + rm.locals ≤ R.locals) (hc : cells + rm.cells ≤ R.cells) (hs : slots + rm.slots ≤ R.slots) (hsz : Ls.size = c.maxLocals) (hlen : ∀ sig, parseMethodDescriptor y.desc = some sig → argsL.length = sig.parameters.length) (hW : (rest.map fun v => v.category).sum ≤ W) (hst : St = argsL.reverse ++ .ref a :: rest) (hd : decode c.code pc = .ok (.invokevirtual index, 3)) (hp : pc + 3 = pc')
    (kk : ∀ (T' : State) (L : List Loc) (v : Option Value), Stand p l e R s m args below meth c T' (locs ++ L) (cells + rm.cells) (slots + rm.slots) → Qc v T'.heap L → Go p e below s cm sm Q T' (mkF m pc' Ls (v.toList ++ rest))) : Go p e below s cm sm Q T (mkF m pc Ls St) := by
  subst hp hst
  obtain ⟨cq, q1, q2⟩ := E.cell
  obtain ⟨v, _, ⟨T1, L1, k1, n1⟩, -, X1, ⟨Lc, hQ, l1, y1, z1⟩, st⟩ := X.privateBack hx (y := y) hown (mvT hZ w1) (mvT hZ w2) (mvT hZ ws) (Cond.privateMethod_at (mvP hZ wp (args := #[]))) (mvT hZ w4) hy (C.back (W := W) hZ w4 w3 hf hl) (g := mkF m pc Ls (argsL.reverse ++ .ref a :: rest)) rfl hsz (Steps.refl _) (a := a) (by rw [eT]; exact q1) q2 (argsL := argsL) (rest := rest) hlen rfl (by show 2 * 0 + _ ≤ _; rw [Nat.mul_zero, Nat.zero_add]; exact hW) hd (fun _ _ => ⟨rfl, eT, hc, hs⟩)
  dsimp only [Pt.U, Pt.locs, Pt.cells, Pt.slots] at X1 l1 y1 z1 st hQ
  subst l1 y1 z1
  exact Go.st (fun t q => st.trans q) (kk _ _ _ X1 hQ)
theorem w_ifnullNo (X : Stand p l e R s m args below meth c T locs cells slots) (hx : p.tables.exec = Jvm.exec) {o : Int} {b : Addr} (hd : decode c.code pc = .ok (.ifnull o, 3)) (hp : pc + 3 = pc') (kk : Go p e below s cm sm Q T (mkF m pc' Ls St)) : Go p e below s cm sm Q T (mkF m pc Ls (.ref b :: St)) := by
  subst hp
  exact Go.st (fun t q => XS.ifnullNo (g := mkF m pc Ls (.ref b :: St)) X.here hx rfl hd rfl q) kk
theorem own_len {n k : Nat} (h : n < 2147483648) (hk : k < 2147483648) (hc : ¬ n.toInt32 < k.toInt32) : k ≤ n := by
  rw [Int32.lt_iff_toInt_lt, len_toInt h, len_toInt hk] at hc
  omega
theorem own_len' {n k : Nat} (h : n < 2147483648) (hk : k < 2147483648) (hc : n.toInt32 < k.toInt32) : n < k := by
  rw [Int32.lt_iff_toInt_lt, len_toInt h, len_toInt hk] at hc
  omega
theorem own_getD {α : Type} {vs : List α} {j : Nat} {d : α} (h : j < vs.length) : vs[j]? = some (vs.getD j d) := by simp [h]
theorem own_nar0 : nar .boolean 0 = 0 := by decide
theorem own_nar1 : nar .boolean 1 = 1 := by decide
theorem w_up {c' s' : Nat} (X : Stand p l e R s m args below meth c T locs cells slots) (h1 : cells ≤ c') (h2 : slots ≤ s') : Stand p l e R s m args below meth c T locs c' s' :=
  ⟨X.admits, X.cas, X.clock, X.frames, X.room, X.hears, X.method, X.code, X.here, X.tail, X.warmed, X.limits, X.bytes, X.same.mono h1 h2⟩
end OwnKit
theorem pd_0 : parseMethodDescriptor "(I)I" = some ⟨[.int], some .int⟩ := by decide +kernel
theorem pd_1 : parseMethodDescriptor "(J)I" = some ⟨[.long], some .int⟩ := by decide +kernel
theorem pd_2 : parseMethodDescriptor "([JI)I" = some ⟨[(.array .long), .int], some .int⟩ := by decide +kernel
theorem d3_0 : decode jdk_33_method_47_code 0 = .ok (.iload_n 0, 1) := by decide +kernel
theorem d3_1 : decode jdk_33_method_47_code 1 = .ok (.ifCond .gt 14, 3) := by decide +kernel
theorem d3_4 : decode jdk_33_method_47_code 4 = .ok (.iload_n 0, 1) := by decide +kernel
theorem d3_5 : decode jdk_33_method_47_code 5 = .ok (.ifCond .ne 8, 3) := by decide +kernel
theorem d3_8 : decode jdk_33_method_47_code 8 = .ok (.bipush 32, 2) := by decide +kernel
theorem d3_10 : decode jdk_33_method_47_code 10 = .ok (.goto 4, 3) := by decide +kernel
theorem d3_13 : decode jdk_33_method_47_code 13 = .ok (.iconst 0, 1) := by decide +kernel
theorem d3_14 : decode jdk_33_method_47_code 14 = .ok (.ireturn, 1) := by decide +kernel
theorem d3_15 : decode jdk_33_method_47_code 15 = .ok (.bipush 31, 2) := by decide +kernel
theorem d3_17 : decode jdk_33_method_47_code 17 = .ok (.istore_n 1, 1) := by decide +kernel
theorem d3_18 : decode jdk_33_method_47_code 18 = .ok (.iload_n 0, 1) := by decide +kernel
theorem d3_19 : decode jdk_33_method_47_code 19 = .ok (.ldc_w 264, 3) := by decide +kernel
theorem d3_22 : decode jdk_33_method_47_code 22 = .ok (.if_icmp .lt 11, 3) := by decide +kernel
theorem d3_25 : decode jdk_33_method_47_code 25 = .ok (.iinc 1 (-16), 3) := by decide +kernel
theorem d3_28 : decode jdk_33_method_47_code 28 = .ok (.iload_n 0, 1) := by decide +kernel
theorem d3_29 : decode jdk_33_method_47_code 29 = .ok (.bipush 16, 2) := by decide +kernel
theorem d3_31 : decode jdk_33_method_47_code 31 = .ok (.iushr, 1) := by decide +kernel
theorem d3_32 : decode jdk_33_method_47_code 32 = .ok (.istore_n 0, 1) := by decide +kernel
theorem d3_33 : decode jdk_33_method_47_code 33 = .ok (.iload_n 0, 1) := by decide +kernel
theorem d3_34 : decode jdk_33_method_47_code 34 = .ok (.sipush 256, 3) := by decide +kernel
theorem d3_37 : decode jdk_33_method_47_code 37 = .ok (.if_icmp .lt 11, 3) := by decide +kernel
theorem d3_40 : decode jdk_33_method_47_code 40 = .ok (.iinc 1 (-8), 3) := by decide +kernel
theorem d3_43 : decode jdk_33_method_47_code 43 = .ok (.iload_n 0, 1) := by decide +kernel
theorem d3_44 : decode jdk_33_method_47_code 44 = .ok (.bipush 8, 2) := by decide +kernel
theorem d3_46 : decode jdk_33_method_47_code 46 = .ok (.iushr, 1) := by decide +kernel
theorem d3_47 : decode jdk_33_method_47_code 47 = .ok (.istore_n 0, 1) := by decide +kernel
theorem d3_48 : decode jdk_33_method_47_code 48 = .ok (.iload_n 0, 1) := by decide +kernel
theorem d3_49 : decode jdk_33_method_47_code 49 = .ok (.bipush 16, 2) := by decide +kernel
theorem d3_51 : decode jdk_33_method_47_code 51 = .ok (.if_icmp .lt 10, 3) := by decide +kernel
theorem d3_54 : decode jdk_33_method_47_code 54 = .ok (.iinc 1 (-4), 3) := by decide +kernel
theorem d3_57 : decode jdk_33_method_47_code 57 = .ok (.iload_n 0, 1) := by decide +kernel
theorem d3_58 : decode jdk_33_method_47_code 58 = .ok (.iconst 4, 1) := by decide +kernel
theorem d3_59 : decode jdk_33_method_47_code 59 = .ok (.iushr, 1) := by decide +kernel
theorem d3_60 : decode jdk_33_method_47_code 60 = .ok (.istore_n 0, 1) := by decide +kernel
theorem d3_61 : decode jdk_33_method_47_code 61 = .ok (.iload_n 0, 1) := by decide +kernel
theorem d3_62 : decode jdk_33_method_47_code 62 = .ok (.iconst 4, 1) := by decide +kernel
theorem d3_63 : decode jdk_33_method_47_code 63 = .ok (.if_icmp .lt 10, 3) := by decide +kernel
theorem d3_66 : decode jdk_33_method_47_code 66 = .ok (.iinc 1 (-2), 3) := by decide +kernel
theorem d3_69 : decode jdk_33_method_47_code 69 = .ok (.iload_n 0, 1) := by decide +kernel
theorem d3_70 : decode jdk_33_method_47_code 70 = .ok (.iconst 2, 1) := by decide +kernel
theorem d3_71 : decode jdk_33_method_47_code 71 = .ok (.iushr, 1) := by decide +kernel
theorem d3_72 : decode jdk_33_method_47_code 72 = .ok (.istore_n 0, 1) := by decide +kernel
theorem d3_73 : decode jdk_33_method_47_code 73 = .ok (.iload_n 1, 1) := by decide +kernel
theorem d3_74 : decode jdk_33_method_47_code 74 = .ok (.iload_n 0, 1) := by decide +kernel
theorem d3_75 : decode jdk_33_method_47_code 75 = .ok (.iconst 1, 1) := by decide +kernel
theorem d3_76 : decode jdk_33_method_47_code 76 = .ok (.iushr, 1) := by decide +kernel
theorem d3_77 : decode jdk_33_method_47_code 77 = .ok (.isub, 1) := by decide +kernel
theorem d3_78 : decode jdk_33_method_47_code 78 = .ok (.ireturn, 1) := by decide +kernel
def K3_73 (x0 : Int32) (x1 : Int32) : Int32 :=
  (x1 - (jushr x0 (1 : Int32)))
set_option maxRecDepth 65536 in
set_option maxHeartbeats 4000000 in
theorem bk3_73 {p : Program} {l : Launch} {e : Env} {s : State} {m : MethodId} {args : Array Value} {below : List Frame} {meth : Method} {c : Code} {T : State} {locs : List Loc} {Z : State} {a0 : Array Value} {h0 : Heap} {n0 : Nat} (X : Stand p l e ({ frames := 0, cells := 0, slots := 0, locals := 0 } : Room) s m args below meth c T locs 0 0) (hx : p.tables.exec = Jvm.exec) (hZ : Z.Warmed39 s.vm) (hw : ∀ d ∈ tables_1, d.before a0 Z = true) (hby : c.code = jdk_33_method_47_code) (hml : c.maxLocals = 2) (hown : s.vm.findClass "java/lang/Integer" = some m.cls) (hret : meth.sig.returnType = (some .int)) (hlk : meth.locks = false) (e0 : T.heap = h0) (N0 : Fr n0 locs) (x0 : Int32) (x1 : Int32) :
    Go p e below s 0 0 (QP (some (.int (K3_73 x0 x1))) h0 n0) T (mkF m 73 #[.val (.int x0), .val (.int x1)] []) := by
  rw [K3_73]
  refine w_iloadN X hx (hb hby d3_73) (pc' := 74) rfl rfl ?_
  refine w_iloadN X hx (hb hby d3_74) (pc' := 75) rfl rfl ?_
  refine w_iconst (v := 1) X hx (hb hby d3_75) (pc' := 76) rfl rfl ?_
  refine w_iushr X hx (hb hby d3_76) (pc' := 77) rfl ?_
  refine w_isub X hx (hb hby d3_77) (pc' := 78) rfl ?_
  exact w_retI X hx hret hlk (hb hby d3_78) (by decide) (by decide) ⟨rfl, N0, e0⟩
def K3_61 (x0 : Int32) (x1 : Int32) : Int32 :=
  (if x0 < (4 : Int32) then (K3_73 x0 x1)
  else (K3_73 (jushr x0 (2 : Int32)) (x1 + (-2 : Int32))))
set_option maxRecDepth 65536 in
set_option maxHeartbeats 4000000 in
theorem bk3_61 {p : Program} {l : Launch} {e : Env} {s : State} {m : MethodId} {args : Array Value} {below : List Frame} {meth : Method} {c : Code} {T : State} {locs : List Loc} {Z : State} {a0 : Array Value} {h0 : Heap} {n0 : Nat} (X : Stand p l e ({ frames := 0, cells := 0, slots := 0, locals := 0 } : Room) s m args below meth c T locs 0 0) (hx : p.tables.exec = Jvm.exec) (hZ : Z.Warmed39 s.vm) (hw : ∀ d ∈ tables_1, d.before a0 Z = true) (hby : c.code = jdk_33_method_47_code) (hml : c.maxLocals = 2) (hown : s.vm.findClass "java/lang/Integer" = some m.cls) (hret : meth.sig.returnType = (some .int)) (hlk : meth.locks = false) (e0 : T.heap = h0) (N0 : Fr n0 locs) (x0 : Int32) (x1 : Int32) :
    Go p e below s 0 0 (QP (some (.int (K3_61 x0 x1))) h0 n0) T (mkF m 61 #[.val (.int x0), .val (.int x1)] []) := by
  rw [K3_61]
  refine w_iloadN X hx (hb hby d3_61) (pc' := 62) rfl rfl ?_
  refine w_iconst (v := 4) X hx (hb hby d3_62) (pc' := 63) rfl rfl ?_
  refine w_icmp_lt X hx (hb hby d3_63) (pf := 66) (pt := 73) rfl (by decide) (by decide) (fun hc63 => ?_) (fun hc63 => ?_)
  · rw [if_pos hc63]
    exact bk3_73 X hx hZ hw hby hml hown hret hlk e0 N0 x0 x1
  · rw [if_neg hc63]
    refine w_iinc (Ls' := #[.val (.int x0), .val (.int (x1 + (-2 : Int32)))]) (w := (-2 : Int32)) X hx (hb hby d3_66) (pc' := 69) rfl rfl rfl rfl ?_
    refine w_iloadN X hx (hb hby d3_69) (pc' := 70) rfl rfl ?_
    refine w_iconst (v := 2) X hx (hb hby d3_70) (pc' := 71) rfl rfl ?_
    refine w_iushr X hx (hb hby d3_71) (pc' := 72) rfl ?_
    refine w_istoreN (Ls' := #[.val (.int (jushr x0 (2 : Int32))), .val (.int (x1 + (-2 : Int32)))]) X hx (hb hby d3_72) (pc' := 73) rfl rfl ?_
    exact bk3_73 X hx hZ hw hby hml hown hret hlk e0 N0 (jushr x0 (2 : Int32)) (x1 + (-2 : Int32))
def K3_48 (x0 : Int32) (x1 : Int32) : Int32 :=
  (if x0 < (16 : Int32) then (K3_61 x0 x1)
  else (K3_61 (jushr x0 (4 : Int32)) (x1 + (-4 : Int32))))
set_option maxRecDepth 65536 in
set_option maxHeartbeats 4000000 in
theorem bk3_48 {p : Program} {l : Launch} {e : Env} {s : State} {m : MethodId} {args : Array Value} {below : List Frame} {meth : Method} {c : Code} {T : State} {locs : List Loc} {Z : State} {a0 : Array Value} {h0 : Heap} {n0 : Nat} (X : Stand p l e ({ frames := 0, cells := 0, slots := 0, locals := 0 } : Room) s m args below meth c T locs 0 0) (hx : p.tables.exec = Jvm.exec) (hZ : Z.Warmed39 s.vm) (hw : ∀ d ∈ tables_1, d.before a0 Z = true) (hby : c.code = jdk_33_method_47_code) (hml : c.maxLocals = 2) (hown : s.vm.findClass "java/lang/Integer" = some m.cls) (hret : meth.sig.returnType = (some .int)) (hlk : meth.locks = false) (e0 : T.heap = h0) (N0 : Fr n0 locs) (x0 : Int32) (x1 : Int32) :
    Go p e below s 0 0 (QP (some (.int (K3_48 x0 x1))) h0 n0) T (mkF m 48 #[.val (.int x0), .val (.int x1)] []) := by
  rw [K3_48]
  refine w_iloadN X hx (hb hby d3_48) (pc' := 49) rfl rfl ?_
  refine w_bipush (v := 16) X hx (hb hby d3_49) (pc' := 51) rfl rfl ?_
  refine w_icmp_lt X hx (hb hby d3_51) (pf := 54) (pt := 61) rfl (by decide) (by decide) (fun hc51 => ?_) (fun hc51 => ?_)
  · rw [if_pos hc51]
    exact bk3_61 X hx hZ hw hby hml hown hret hlk e0 N0 x0 x1
  · rw [if_neg hc51]
    refine w_iinc (Ls' := #[.val (.int x0), .val (.int (x1 + (-4 : Int32)))]) (w := (-4 : Int32)) X hx (hb hby d3_54) (pc' := 57) rfl rfl rfl rfl ?_
    refine w_iloadN X hx (hb hby d3_57) (pc' := 58) rfl rfl ?_
    refine w_iconst (v := 4) X hx (hb hby d3_58) (pc' := 59) rfl rfl ?_
    refine w_iushr X hx (hb hby d3_59) (pc' := 60) rfl ?_
    refine w_istoreN (Ls' := #[.val (.int (jushr x0 (4 : Int32))), .val (.int (x1 + (-4 : Int32)))]) X hx (hb hby d3_60) (pc' := 61) rfl rfl ?_
    exact bk3_61 X hx hZ hw hby hml hown hret hlk e0 N0 (jushr x0 (4 : Int32)) (x1 + (-4 : Int32))
def K3_33 (x0 : Int32) (x1 : Int32) : Int32 :=
  (if x0 < (256 : Int32) then (K3_48 x0 x1)
  else (K3_48 (jushr x0 (8 : Int32)) (x1 + (-8 : Int32))))
set_option maxRecDepth 65536 in
set_option maxHeartbeats 4000000 in
theorem bk3_33 {p : Program} {l : Launch} {e : Env} {s : State} {m : MethodId} {args : Array Value} {below : List Frame} {meth : Method} {c : Code} {T : State} {locs : List Loc} {Z : State} {a0 : Array Value} {h0 : Heap} {n0 : Nat} (X : Stand p l e ({ frames := 0, cells := 0, slots := 0, locals := 0 } : Room) s m args below meth c T locs 0 0) (hx : p.tables.exec = Jvm.exec) (hZ : Z.Warmed39 s.vm) (hw : ∀ d ∈ tables_1, d.before a0 Z = true) (hby : c.code = jdk_33_method_47_code) (hml : c.maxLocals = 2) (hown : s.vm.findClass "java/lang/Integer" = some m.cls) (hret : meth.sig.returnType = (some .int)) (hlk : meth.locks = false) (e0 : T.heap = h0) (N0 : Fr n0 locs) (x0 : Int32) (x1 : Int32) :
    Go p e below s 0 0 (QP (some (.int (K3_33 x0 x1))) h0 n0) T (mkF m 33 #[.val (.int x0), .val (.int x1)] []) := by
  rw [K3_33]
  refine w_iloadN X hx (hb hby d3_33) (pc' := 34) rfl rfl ?_
  refine w_sipush (v := 256) X hx (hb hby d3_34) (pc' := 37) rfl rfl ?_
  refine w_icmp_lt X hx (hb hby d3_37) (pf := 40) (pt := 48) rfl (by decide) (by decide) (fun hc37 => ?_) (fun hc37 => ?_)
  · rw [if_pos hc37]
    exact bk3_48 X hx hZ hw hby hml hown hret hlk e0 N0 x0 x1
  · rw [if_neg hc37]
    refine w_iinc (Ls' := #[.val (.int x0), .val (.int (x1 + (-8 : Int32)))]) (w := (-8 : Int32)) X hx (hb hby d3_40) (pc' := 43) rfl rfl rfl rfl ?_
    refine w_iloadN X hx (hb hby d3_43) (pc' := 44) rfl rfl ?_
    refine w_bipush (v := 8) X hx (hb hby d3_44) (pc' := 46) rfl rfl ?_
    refine w_iushr X hx (hb hby d3_46) (pc' := 47) rfl ?_
    refine w_istoreN (Ls' := #[.val (.int (jushr x0 (8 : Int32))), .val (.int (x1 + (-8 : Int32)))]) X hx (hb hby d3_47) (pc' := 48) rfl rfl ?_
    exact bk3_48 X hx hZ hw hby hml hown hret hlk e0 N0 (jushr x0 (8 : Int32)) (x1 + (-8 : Int32))
def K3_0 (x0 : Int32) : Int32 :=
  (if (0 : Int32) < x0 then (if x0 < (65536 : Int32) then (K3_33 x0 (31 : Int32))
   else (K3_33 (jushr x0 (16 : Int32)) (15 : Int32)))
  else (if x0 = (0 : Int32) then (32 : Int32)
   else (0 : Int32)))
set_option maxRecDepth 65536 in
set_option maxHeartbeats 4000000 in
theorem bk3_0 {p : Program} {l : Launch} {e : Env} {s : State} {m : MethodId} {args : Array Value} {below : List Frame} {meth : Method} {c : Code} {T : State} {locs : List Loc} {Z : State} {a0 : Array Value} {h0 : Heap} {n0 : Nat} (X : Stand p l e ({ frames := 0, cells := 0, slots := 0, locals := 0 } : Room) s m args below meth c T locs 0 0) (hx : p.tables.exec = Jvm.exec) (hZ : Z.Warmed39 s.vm) (hw : ∀ d ∈ tables_1, d.before a0 Z = true) (hby : c.code = jdk_33_method_47_code) (hml : c.maxLocals = 2) (hown : s.vm.findClass "java/lang/Integer" = some m.cls) (hret : meth.sig.returnType = (some .int)) (hlk : meth.locks = false) (e0 : T.heap = h0) (N0 : Fr n0 locs) (x0 : Int32) :
    Go p e below s 0 0 (QP (some (.int (K3_0 x0))) h0 n0) T (mkF m 0 #[.val (.int x0), .unset] []) := by
  rw [K3_0]
  refine w_iloadN X hx (hb hby d3_0) (pc' := 1) rfl rfl ?_
  refine w_if_gt X hx (hb hby d3_1) (pf := 4) (pt := 15) rfl (by decide) (by decide) (fun hc1 => ?_) (fun hc1 => ?_)
  · rw [if_pos hc1]
    refine w_bipush (v := 31) X hx (hb hby d3_15) (pc' := 17) rfl rfl ?_
    refine w_istoreN (Ls' := #[.val (.int x0), .val (.int (31 : Int32))]) X hx (hb hby d3_17) (pc' := 18) rfl rfl ?_
    refine w_iloadN X hx (hb hby d3_18) (pc' := 19) rfl rfl ?_
    refine w_ldcw X hx hZ hown (hw _ (List.mem_of_getElem? (i := 14) rfl)) (hb hby d3_19) (pc' := 22) rfl ?_
    refine w_icmp_lt X hx (hb hby d3_22) (pf := 25) (pt := 33) rfl (by decide) (by decide) (fun hc22 => ?_) (fun hc22 => ?_)
    · rw [if_pos hc22]
      exact bk3_33 X hx hZ hw hby hml hown hret hlk e0 N0 x0 (31 : Int32)
    · rw [if_neg hc22]
      refine w_iinc (Ls' := #[.val (.int x0), .val (.int ((31 : Int32) + (-16 : Int32)))]) (w := (-16 : Int32)) X hx (hb hby d3_25) (pc' := 28) rfl rfl rfl rfl ?_
      rw [show ((31 : Int32) + (-16 : Int32)) = (15 : Int32) from by decide]
      refine w_iloadN X hx (hb hby d3_28) (pc' := 29) rfl rfl ?_
      refine w_bipush (v := 16) X hx (hb hby d3_29) (pc' := 31) rfl rfl ?_
      refine w_iushr X hx (hb hby d3_31) (pc' := 32) rfl ?_
      refine w_istoreN (Ls' := #[.val (.int (jushr x0 (16 : Int32))), .val (.int (15 : Int32))]) X hx (hb hby d3_32) (pc' := 33) rfl rfl ?_
      exact bk3_33 X hx hZ hw hby hml hown hret hlk e0 N0 (jushr x0 (16 : Int32)) (15 : Int32)
  · rw [if_neg hc1]
    refine w_iloadN X hx (hb hby d3_4) (pc' := 5) rfl rfl ?_
    refine w_if_ne X hx (hb hby d3_5) (pf := 8) (pt := 13) rfl (by decide) (by decide) (fun hc5 => ?_) (fun hc5 => ?_)
    · rw [if_neg hc5]
      refine w_iconst (v := 0) X hx (hb hby d3_13) (pc' := 14) rfl rfl ?_
      exact w_retI X hx hret hlk (hb hby d3_14) (by decide) (by decide) ⟨rfl, N0, e0⟩
    · rw [if_pos hc5]
      refine w_bipush (v := 32) X hx (hb hby d3_8) (pc' := 10) rfl rfl ?_
      refine w_goto X hx (hb hby d3_10) (pc' := 14) (by decide) (by decide) ?_
      exact w_retI X hx hret hlk (hb hby d3_14) (by decide) (by decide) ⟨rfl, N0, e0⟩
theorem ef_3 (m : MethodId) (x0 : Int32) : entryFrame m #[(.int x0)] 2 = mkF m 0 #[.val (.int x0), .unset] [] := by first | (simp [entryFrame, mkF, argsToLocals, Value.category]; done) | rfl
theorem rm3 (l : Launch) (Z : State) (a0 : Array Value) (hw : ∀ d ∈ tables_1, d.before a0 Z = true) (x0 : Int32) (h0 : Heap) (n0 : Nat) :
    Con l Z (⟨"java/lang/Integer", "numberOfLeadingZeros", "(I)I"⟩ : MethodName) jdk_33_method_47_code 2 (some .int) ({ frames := 0, cells := 0, slots := 0, locals := 0 } : Room) #[(.int x0)] h0 (QP (some (.int (K3_0 x0))) h0 n0) := by
  refine Con.of (plainFor_of_name (by first | (simp [plainName, overriddenIn]; done) | decide +kernel)) ?_
  intro p e s m below meth c T X hx hZ hby hml hown hnm hret hlk e0
  rw [ef_3]
  exact bk3_0 X hx hZ hw hby hml hown hret hlk e0 (Fr.nil n0) x0
theorem d2_0 : decode jdk_35_method_48_code 0 = .ok (.lload_n 0, 1) := by decide +kernel
theorem d2_1 : decode jdk_35_method_48_code 1 = .ok (.bipush 32, 2) := by decide +kernel
theorem d2_3 : decode jdk_35_method_48_code 3 = .ok (.lushr, 1) := by decide +kernel
theorem d2_4 : decode jdk_35_method_48_code 4 = .ok (.l2i, 1) := by decide +kernel
theorem d2_5 : decode jdk_35_method_48_code 5 = .ok (.istore_n 2, 1) := by decide +kernel
theorem d2_6 : decode jdk_35_method_48_code 6 = .ok (.iload_n 2, 1) := by decide +kernel
theorem d2_7 : decode jdk_35_method_48_code 7 = .ok (.ifCond .ne 14, 3) := by decide +kernel
theorem d2_10 : decode jdk_35_method_48_code 10 = .ok (.bipush 32, 2) := by decide +kernel
theorem d2_12 : decode jdk_35_method_48_code 12 = .ok (.lload_n 0, 1) := by decide +kernel
theorem d2_13 : decode jdk_35_method_48_code 13 = .ok (.l2i, 1) := by decide +kernel
theorem d2_14 : decode jdk_35_method_48_code 14 = .ok (.invokestatic 308, 3) := by decide +kernel
theorem d2_17 : decode jdk_35_method_48_code 17 = .ok (.iadd, 1) := by decide +kernel
theorem d2_18 : decode jdk_35_method_48_code 18 = .ok (.goto 7, 3) := by decide +kernel
theorem d2_21 : decode jdk_35_method_48_code 21 = .ok (.iload_n 2, 1) := by decide +kernel
theorem d2_22 : decode jdk_35_method_48_code 22 = .ok (.invokestatic 308, 3) := by decide +kernel
theorem d2_25 : decode jdk_35_method_48_code 25 = .ok (.ireturn, 1) := by decide +kernel
def K2_0 (x0 : Int64) : Int32 :=
  (if (jlushr x0 (32 : Int32)).toInt32 = (0 : Int32) then ((32 : Int32) + (K3_0 x0.toInt32))
  else (K3_0 (jlushr x0 (32 : Int32)).toInt32))
set_option maxRecDepth 65536 in
set_option maxHeartbeats 4000000 in
theorem bk2_0 {p : Program} {l : Launch} {e : Env} {s : State} {m : MethodId} {args : Array Value} {below : List Frame} {meth : Method} {c : Code} {T : State} {locs : List Loc} {Z : State} {a0 : Array Value} {h0 : Heap} {n0 : Nat} (X : Stand p l e ({ frames := 1, cells := 0, slots := 0, locals := 19 } : Room) s m args below meth c T locs 0 0) (hx : p.tables.exec = Jvm.exec) (hZ : Z.Warmed39 s.vm) (hw : ∀ d ∈ tables_1, d.before a0 Z = true) (hby : c.code = jdk_35_method_48_code) (hml : c.maxLocals = 3) (hown : s.vm.findClass "java/lang/Long" = some m.cls) (hret : meth.sig.returnType = (some .int)) (hlk : meth.locks = false) (e0 : T.heap = h0) (N0 : Fr n0 locs) (x0 : Int64) :
    Go p e below s 0 0 (QP (some (.int (K2_0 x0))) h0 n0) T (mkF m 0 #[.val (.long x0), .second, .unset] []) := by
  rw [K2_0]
  refine w_lloadN X hx (hb hby d2_0) (pc' := 1) rfl rfl ?_
  refine w_bipush (v := 32) X hx (hb hby d2_1) (pc' := 3) rfl rfl ?_
  refine w_lushr X hx (hb hby d2_3) (pc' := 4) rfl ?_
  refine w_l2i X hx (hb hby d2_4) (pc' := 5) rfl ?_
  refine w_istoreN (Ls' := #[.val (.long x0), .second, .val (.int (jlushr x0 (32 : Int32)).toInt32)]) X hx (hb hby d2_5) (pc' := 6) rfl rfl ?_
  refine w_iloadN X hx (hb hby d2_6) (pc' := 7) rfl rfl ?_
  refine w_if_ne X hx (hb hby d2_7) (pf := 10) (pt := 21) rfl (by decide) (by decide) (fun hc7 => ?_) (fun hc7 => ?_)
  · rw [if_neg hc7]
    refine w_iloadN X hx (hb hby d2_21) (pc' := 22) rfl rfl ?_
    refine w_callS (argsL := [(.int (jlushr x0 (32 : Int32)).toInt32)]) (rest := []) X hx hZ hown e0 (rm3 l Z a0 hw (jlushr x0 (32 : Int32)).toInt32 h0 n0) (hw _ (List.mem_of_getElem? (i := 10) rfl)) (hw _ (List.mem_of_getElem? (i := 11) rfl)) (hw _ (List.mem_of_getElem? (i := 12) rfl)) (hw _ (List.mem_of_getElem? (i := 13) rfl)) (by decide) (by decide) (W := 0) (by decide) (by decide) (by decide) (by rw [hml]; rfl) (lenOf pd_0 rfl) (Nat.le_refl _) rfl (hb hby d2_22) (pc' := 25) rfl (fun T1 L1 v1 X1 hQ1 => ?_)
    obtain ⟨rfl, N1q, e1⟩ := hQ1
    have N1 := Fr.app N0 N1q
    have X1 : Stand p l e ({ frames := 1, cells := 0, slots := 0, locals := 19 } : Room) s m _ below meth c T1 _ 0 0 := X1
    show Go p e below s 0 0 _ T1 (mkF m 25 #[.val (.long x0), .second, .val (.int (jlushr x0 (32 : Int32)).toInt32)] [(.int (K3_0 (jlushr x0 (32 : Int32)).toInt32))])
    exact w_retI X1 hx hret hlk (hb hby d2_25) (by decide) (by decide) ⟨rfl, N1, e1⟩
  · rw [if_pos hc7]
    refine w_bipush (v := 32) X hx (hb hby d2_10) (pc' := 12) rfl rfl ?_
    refine w_lloadN X hx (hb hby d2_12) (pc' := 13) rfl rfl ?_
    refine w_l2i X hx (hb hby d2_13) (pc' := 14) rfl ?_
    refine w_callS (argsL := [(.int x0.toInt32)]) (rest := [(.int (32 : Int32))]) X hx hZ hown e0 (rm3 l Z a0 hw x0.toInt32 h0 n0) (hw _ (List.mem_of_getElem? (i := 10) rfl)) (hw _ (List.mem_of_getElem? (i := 11) rfl)) (hw _ (List.mem_of_getElem? (i := 12) rfl)) (hw _ (List.mem_of_getElem? (i := 13) rfl)) (by decide) (by decide) (W := 1) (by decide) (by decide) (by decide) (by rw [hml]; rfl) (lenOf pd_0 rfl) (Nat.le_refl _) rfl (hb hby d2_14) (pc' := 17) rfl (fun T2 L2 v2 X2 hQ2 => ?_)
    obtain ⟨rfl, N2q, e2⟩ := hQ2
    have N2 := Fr.app N0 N2q
    have X2 : Stand p l e ({ frames := 1, cells := 0, slots := 0, locals := 19 } : Room) s m _ below meth c T2 _ 0 0 := X2
    show Go p e below s 0 0 _ T2 (mkF m 17 #[.val (.long x0), .second, .val (.int (jlushr x0 (32 : Int32)).toInt32)] [(.int (K3_0 x0.toInt32)), (.int (32 : Int32))])
    refine w_iadd X2 hx (hb hby d2_17) (pc' := 18) rfl ?_
    refine w_goto X2 hx (hb hby d2_18) (pc' := 25) (by decide) (by decide) ?_
    exact w_retI X2 hx hret hlk (hb hby d2_25) (by decide) (by decide) ⟨rfl, N2, e2⟩
theorem ef_2 (m : MethodId) (x0 : Int64) : entryFrame m #[(.long x0)] 3 = mkF m 0 #[.val (.long x0), .second, .unset] [] := by first | (simp [entryFrame, mkF, argsToLocals, Value.category]; done) | rfl
theorem rm2 (l : Launch) (Z : State) (a0 : Array Value) (hw : ∀ d ∈ tables_1, d.before a0 Z = true) (x0 : Int64) (h0 : Heap) (n0 : Nat) :
    Con l Z (⟨"java/lang/Long", "numberOfLeadingZeros", "(J)I"⟩ : MethodName) jdk_35_method_48_code 3 (some .int) ({ frames := 1, cells := 0, slots := 0, locals := 19 } : Room) #[(.long x0)] h0 (QP (some (.int (K2_0 x0))) h0 n0) := by
  refine Con.of (plainFor_of_name (by first | (simp [plainName, overriddenIn]; done) | decide +kernel)) ?_
  intro p e s m below meth c T X hx hZ hby hml hown hnm hret hlk e0
  rw [ef_2]
  exact bk2_0 X hx hZ hw hby hml hown hret hlk e0 (Fr.nil n0) x0
theorem d1_0 : decode prog_54_method_5_code 0 = .ok (.iload_n 1, 1) := by decide +kernel
theorem d1_1 : decode prog_54_method_5_code 1 = .ok (.ifCond .ne 7, 3) := by decide +kernel
theorem d1_4 : decode prog_54_method_5_code 4 = .ok (.iconst 0, 1) := by decide +kernel
theorem d1_5 : decode prog_54_method_5_code 5 = .ok (.goto 16, 3) := by decide +kernel
theorem d1_8 : decode prog_54_method_5_code 8 = .ok (.iload_n 1, 1) := by decide +kernel
theorem d1_9 : decode prog_54_method_5_code 9 = .ok (.bipush 64, 2) := by decide +kernel
theorem d1_11 : decode prog_54_method_5_code 11 = .ok (.imul, 1) := by decide +kernel
theorem d1_12 : decode prog_54_method_5_code 12 = .ok (.aload_n 0, 1) := by decide +kernel
theorem d1_13 : decode prog_54_method_5_code 13 = .ok (.iload_n 1, 1) := by decide +kernel
theorem d1_14 : decode prog_54_method_5_code 14 = .ok (.iconst 1, 1) := by decide +kernel
theorem d1_15 : decode prog_54_method_5_code 15 = .ok (.isub, 1) := by decide +kernel
theorem d1_16 : decode prog_54_method_5_code 16 = .ok (.laload, 1) := by decide +kernel
theorem d1_17 : decode prog_54_method_5_code 17 = .ok (.invokestatic 26, 3) := by decide +kernel
theorem d1_20 : decode prog_54_method_5_code 20 = .ok (.isub, 1) := by decide +kernel
theorem d1_21 : decode prog_54_method_5_code 21 = .ok (.ireturn, 1) := by decide +kernel
def K1_0 (vs : List Int64) (x1 : Int32) : Int32 :=
  (if x1 = (0 : Int32) then (0 : Int32)
  else ((x1 * (64 : Int32)) - (K2_0 (vs.getD ((x1 - (1 : Int32))).toNatClampNeg 0))))
set_option maxRecDepth 65536 in
set_option maxHeartbeats 4000000 in
theorem bk1_0 {p : Program} {l : Launch} {e : Env} {s : State} {m : MethodId} {args : Array Value} {below : List Frame} {meth : Method} {c : Code} {T : State} {locs : List Loc} {Z : State} {a0 : Array Value} {h0 : Heap} {n0 : Nat} {ar : Addr} {vs : List Int64} (X : Stand p l e ({ frames := 2, cells := 0, slots := 0, locals := 39 } : Room) s m args below meth c T locs 0 0) (hx : p.tables.exec = Jvm.exec) (hZ : Z.Warmed39 s.vm) (hw : ∀ d ∈ tables_1, d.before a0 Z = true) (hby : c.code = prog_54_method_5_code) (hml : c.maxLocals = 2) (hown : s.vm.findClass "com/example/curves_to_bounds/curvestobounds/Words" = some m.cls) (hret : meth.sig.returnType = (some .int)) (hlk : meth.locks = false) (e0 : T.heap = h0) (N0 : Fr n0 locs) (V_ar : AJ Z h0 ar vs) (x1 : Int32) (hbx : ¬ (x1 = 0) → ¬ (x1 - 1) < 0 ∧ (x1 - 1).toNatClampNeg < vs.length) :
    Go p e below s 0 0 (QP (some (.int (K1_0 vs x1))) h0 n0) T (mkF m 0 #[.val (.ref ar), .val (.int x1)] []) := by
  rw [K1_0]
  refine w_iloadN X hx (hb hby d1_0) (pc' := 1) rfl rfl ?_
  refine w_if_ne X hx (hb hby d1_1) (pf := 4) (pt := 8) rfl (by decide) (by decide) (fun hc1 => ?_) (fun hc1 => ?_)
  · rw [if_neg hc1]
    refine w_iloadN X hx (hb hby d1_8) (pc' := 9) rfl rfl ?_
    refine w_bipush (v := 64) X hx (hb hby d1_9) (pc' := 11) rfl rfl ?_
    refine w_imul X hx (hb hby d1_11) (pc' := 12) rfl ?_
    refine w_aloadN X hx (hb hby d1_12) (pc' := 13) rfl rfl rfl ?_
    refine w_iloadN X hx (hb hby d1_13) (pc' := 14) rfl rfl ?_
    refine w_iconst (v := 1) X hx (hb hby d1_14) (pc' := 15) rfl rfl ?_
    refine w_isub X hx (hb hby d1_15) (pc' := 16) rfl ?_
    refine w_laload X hx hZ e0 V_ar (v := (vs.getD ((x1 - (1 : Int32))).toNatClampNeg 0)) (hbx hc1).1 (own_getD (hbx hc1).2) (hb hby d1_16) (pc' := 17) rfl ?_
    refine w_callS (argsL := [(.long (vs.getD ((x1 - (1 : Int32))).toNatClampNeg 0))]) (rest := [(.int (x1 * (64 : Int32)))]) X hx hZ hown e0 (rm2 l Z a0 hw (vs.getD ((x1 - (1 : Int32))).toNatClampNeg 0) h0 n0) (hw _ (List.mem_of_getElem? (i := 6) rfl)) (hw _ (List.mem_of_getElem? (i := 7) rfl)) (hw _ (List.mem_of_getElem? (i := 8) rfl)) (hw _ (List.mem_of_getElem? (i := 9) rfl)) (by decide) (by decide) (W := 1) (by decide) (by decide) (by decide) (by rw [hml]; rfl) (lenOf pd_1 rfl) (Nat.le_refl _) rfl (hb hby d1_17) (pc' := 20) rfl (fun T3 L3 v3 X3 hQ3 => ?_)
    obtain ⟨rfl, N3q, e3⟩ := hQ3
    have N3 := Fr.app N0 N3q
    have X3 : Stand p l e ({ frames := 2, cells := 0, slots := 0, locals := 39 } : Room) s m _ below meth c T3 _ 0 0 := X3
    show Go p e below s 0 0 _ T3 (mkF m 20 #[.val (.ref ar), .val (.int x1)] [(.int (K2_0 (vs.getD ((x1 - (1 : Int32))).toNatClampNeg 0))), (.int (x1 * (64 : Int32)))])
    refine w_isub X3 hx (hb hby d1_20) (pc' := 21) rfl ?_
    exact w_retI X3 hx hret hlk (hb hby d1_21) (by decide) (by decide) ⟨rfl, N3, e3⟩
  · rw [if_pos hc1]
    refine w_iconst (v := 0) X hx (hb hby d1_4) (pc' := 5) rfl rfl ?_
    refine w_goto X hx (hb hby d1_5) (pc' := 21) (by decide) (by decide) ?_
    exact w_retI X hx hret hlk (hb hby d1_21) (by decide) (by decide) ⟨rfl, N0, e0⟩
theorem ef_1 (m : MethodId) (ar : Addr) (x1 : Int32) : entryFrame m #[(.ref ar), (.int x1)] 2 = mkF m 0 #[.val (.ref ar), .val (.int x1)] [] := by first | (simp [entryFrame, mkF, argsToLocals, Value.category]; done) | rfl
theorem rm1 (l : Launch) (Z : State) (a0 : Array Value) (hw : ∀ d ∈ tables_1, d.before a0 Z = true) (ar : Addr) (x1 : Int32) (h0 : Heap) (n0 : Nat) (vs : List Int64) (V_ar : AJ Z h0 ar vs) (hbx : ¬ (x1 = 0) → ¬ (x1 - 1) < 0 ∧ (x1 - 1).toNatClampNeg < vs.length) :
    Con l Z (⟨"com/example/curves_to_bounds/curvestobounds/Words", "bitLength", "([JI)I"⟩ : MethodName) prog_54_method_5_code 2 (some .int) ({ frames := 2, cells := 0, slots := 0, locals := 39 } : Room) #[(.ref ar), (.int x1)] h0 (QP (some (.int (K1_0 vs x1))) h0 n0) := by
  refine Con.of (plainFor_of_name (by first | (simp [plainName, overriddenIn]; done) | decide +kernel)) ?_
  intro p e s m below meth c T X hx hZ hby hml hown hnm hret hlk e0
  rw [ef_1]
  exact bk1_0 X hx hZ hw hby hml hown hret hlk e0 (Fr.nil n0) V_ar x1 hbx
theorem own_m (x m : Int32) {k : Nat} (hk : k < 32) (hm : m.toBitVec.toNat = 2 ^ k - 1) : 0 ≤ (x &&& m).toInt ∧ (x &&& m).toInt < 2 ^ k := by
  rw [Jvm.Kit.i32_mask x m hk hm]
  exact ⟨Int.emod_nonneg _ (by have : (0 : Int) < 2 ^ k := Int.pow_pos (by decide); omega), Int.emod_lt_of_pos _ (Int.pow_pos (by decide))⟩
theorem own_one : (1 : Int32).toInt = 1 := by decide
theorem own_zero : (0 : Int32).toInt = 0 := by decide
theorem own_toInt {x y : Int32} (h : x.toInt = y.toInt) : x = y := Int32.toInt_inj.mp h
theorem own_and1 (x : Int32) : x &&& 1 = 0 ∨ x &&& 1 = 1 := and_one x
theorem own_and3 (x : Int32) : x &&& 3 = 0 ∨ x &&& 3 = 1 ∨ x &&& 3 = 2 ∨ x &&& 3 = 3 := by
  obtain ⟨h1, h2⟩ := own_m x 3 (k := 2) (by decide) (by decide)
  have e1 : (1 : Int32).toInt = 1 := by decide
  have e2 : (2 : Int32).toInt = 2 := by decide
  have e3 : (3 : Int32).toInt = 3 := by decide
  have e0 : (0 : Int32).toInt = 0 := by decide
  have : (x &&& 3).toInt = 0 ∨ (x &&& 3).toInt = 1 ∨ (x &&& 3).toInt = 2 ∨ (x &&& 3).toInt = 3 := by omega
  rcases this with h | h | h | h
  · exact Or.inl (own_toInt (h.trans e0.symm))
  · exact Or.inr (Or.inl (own_toInt (h.trans e1.symm)))
  · exact Or.inr (Or.inr (Or.inl (own_toInt (h.trans e2.symm))))
  · exact Or.inr (Or.inr (Or.inr (own_toInt (h.trans e3.symm))))
theorem own_b01 {c : Prop} [Decidable c] {v : Int32} (h : v = if c then 0 else 1) : v = 0 ∨ v = 1 := by subst h; split <;> simp
theorem own_b10 {c : Prop} [Decidable c] {v : Int32} (h : v = if c then 1 else 0) : v = 0 ∨ v = 1 := by subst h; split <;> simp
theorem own_dist (y : Int32) : (y &&& 0x3f).toInt64.toUInt64.toNat = (y.toInt % 64).toNat := by
  have h1 : (y &&& 63).toInt = y.toInt % 2 ^ 6 := Jvm.Kit.i32_mask y 63 (k := 6) (by decide) (by decide)
  have h2 : (y &&& 63).toInt64.toInt = (y &&& 63).toInt := Int32.toInt_toInt64 _
  have h3 : ((y &&& 63).toInt64.toUInt64.toNat : Int) = (y &&& 63).toInt64.toInt := by
    have h4 : (y &&& 63).toInt64.toInt = (y &&& 63).toInt64.toBitVec.toInt := rfl
    have h5 : (y &&& 63).toInt64.toUInt64.toNat = (y &&& 63).toInt64.toBitVec.toNat := rfl
    have h6 : 0 ≤ (y &&& 63).toInt64.toBitVec.toInt := by rw [← h4, h2, h1]; omega
    rw [h4, h5, BitVec.toInt_eq_toNat_cond] at *
    have := (y &&& 63).toInt64.toBitVec.isLt
    split at h6 <;> split <;> omega
  rw [show (0x3f : Int32) = 63 from rfl]
  omega
theorem own_lushr_bv (x : Int64) (y : Int32) : (jlushr x y).toBitVec = x.toBitVec >>> (y.toInt % 64).toNat := by
  show (x.toUInt64 >>> (y &&& 0x3f).toInt64.toUInt64).toBitVec = _
  rw [UInt64.toBitVec_shiftRight]
  have := own_dist y
  rw [BitVec.ushiftRight_eq']
  have e : ((y &&& 0x3f).toInt64.toUInt64.toBitVec % 64).toNat = (y.toInt % 64).toNat := by
    rw [BitVec.toNat_umod]
    show (y &&& 0x3f).toInt64.toUInt64.toNat % 64 = _
    rw [this]; omega
  rw [e]
  rfl
theorem own_lushr_nat (x : Int64) (y : Int32) : (jlushr x y).toBitVec.toNat = x.toBitVec.toNat / 2 ^ (y.toInt % 64).toNat := by
  rw [own_lushr_bv, BitVec.toNat_ushiftRight, Nat.shiftRight_eq_div_pow]
theorem own_bit (m : Int64) (p : Int32) (h0 : 0 ≤ p.toInt) (h : p.toInt < 64) : ((jlushr m p &&& 1) = 0) ↔ m.toBitVec.getLsbD p.toInt.toNat = false := by
  rw [← Int64.toBitVec_inj, Int64.toBitVec_and, own_lushr_bv]
  have e : (p.toInt % 64).toNat = p.toInt.toNat := by omega
  rw [e]
  have e1 : (1 : Int64).toBitVec = 1#64 := rfl
  have e0 : (0 : Int64).toBitVec = 0#64 := rfl
  rw [e1, e0, ← BitVec.toNat_inj, BitVec.toNat_and, BitVec.toNat_ushiftRight]
  rw [show (1#64).toNat = 1 from rfl, show (0#64).toNat = 0 from rfl, Nat.and_one_is_mod]
  rw [BitVec.getLsbD, Nat.testBit]
  rw [Nat.and_comm, Nat.and_one_is_mod]
  simp
theorem own_smod (d : Int32) : ((d &&& 0x3f).toInt64.toBitVec.smod 64).toNat = (d.toInt % 64).toNat := by
  have h1 := own_dist d
  have h2 : (d &&& 0x3f).toInt64.toBitVec.toNat = (d.toInt % 64).toNat := h1
  have h3 : (d &&& 0x3f).toInt64.toBitVec = BitVec.ofNat 64 (d.toInt % 64).toNat := by
    apply BitVec.eq_of_toNat_eq
    rw [h2, BitVec.toNat_ofNat]; omega
  rw [h3]
  have h4 : (d.toInt % 64).toNat < 64 := by omega
  generalize (d.toInt % 64).toNat = n at *
  have : ∀ n, n < 64 → ((BitVec.ofNat 64 n).smod 64).toNat = n := by decide
  exact this n h4
theorem own_shl_bv (x : Int64) (d : Int32) : (x <<< (d &&& 0x3f).toInt64).toBitVec = x.toBitVec <<< (d.toInt % 64).toNat := by
  rw [Int64.toBitVec_shiftLeft, BitVec.shiftLeft_eq', own_smod]
theorem own_bit1 (d p : Int32) (h0 : 0 ≤ p.toInt) (h : p.toInt < 64) : ((1 : Int64) <<< (d &&& 0x3f).toInt64).toBitVec.getLsbD p.toInt.toNat = decide ((d &&& 63) = p) := by
  rw [own_shl_bv, show (1 : Int64).toBitVec = 1#64 from rfl, BitVec.getLsbD_shiftLeft]
  have h1 : (d &&& 63).toInt = d.toInt % 2 ^ 6 := Jvm.Kit.i32_mask d 63 (k := 6) (by decide) (by decide)
  rw [BitVec.getLsbD_one, Bool.eq_iff_iff]
  simp only [Bool.and_eq_true, Bool.not_eq_true', decide_eq_true_eq, decide_eq_false_iff_not]
  rw [← Int32.toInt_inj, h1]
  omega
theorem own_or_bit (a b : Int64) (n : Nat) : (a ||| b).toBitVec.getLsbD n = (a.toBitVec.getLsbD n || b.toBitVec.getLsbD n) := by
  rw [Int64.toBitVec_or, BitVec.getLsbD_or]
theorem own_field (x : Int64) : (x &&& 63).toInt32 = x.toInt32 &&& 63 := by
  rw [Int64.toInt32_and]; rfl
theorem own_u0 (x : Int64) : jlushr x 0 = x := by
  apply Int64.toBitVec_inj.mp
  rw [own_lushr_bv]; simp
theorem own_sr {x : Int32} (k : Int32) (n : Nat) (hk : (k &&& 31).toUInt32.toNat = n) (hn : n < 32) (h : 0 ≤ x.toInt) : (jushr x k).toInt = x.toInt / 2 ^ n := Jvm.Kit.i32_iushr (by rw [Int32.le_iff_toInt_le, own_zero]; exact h) hk hn
theorem own_73 {x n : Int32} (h1 : 1 ≤ x.toInt) (h2 : x.toInt < 4) (n1 : 1 ≤ n.toInt) (n2 : n.toInt < 100) : ∃ e : Nat, e < 2 ∧ (2 ^ e : Int) ≤ x.toInt ∧ x.toInt < 2 ^ (e + 1) ∧ (K3_73 x n).toInt = n.toInt - e := by
  have hs := own_sr (x := x) 1 1 (by decide) (by decide) (by omega)
  have hk : (K3_73 x n).toInt = n.toInt - x.toInt / 2 ^ 1 := by rw [K3_73, Jvm.Kit.i32_sub (by omega) (by omega), hs]
  rcases Int.lt_or_le x.toInt 2 with h | h
  · exact ⟨0, by omega, by omega, by omega, by omega⟩
  · exact ⟨1, by omega, by omega, by omega, by omega⟩
theorem own_dn {n : Int32} {k : Int32} {c : Int} (hk : k.toInt = -c) (c0 : 0 ≤ c) (h : c ≤ n.toInt) : (n + k).toInt = n.toInt - c := by
  have := n.toInt_lt
  rw [Jvm.Kit.i32_add (by omega) (by omega)]; omega
theorem own_pw (e k : Nat) : (2 ^ (e + k) : Int) = 2 ^ k * 2 ^ e := by rw [Int.pow_add, Int.mul_comm]
theorem own_61 {x n : Int32} (h1 : 1 ≤ x.toInt) (h2 : x.toInt < 16) (n1 : 3 ≤ n.toInt) (n2 : n.toInt < 100) : ∃ e : Nat, e < 4 ∧ (2 ^ e : Int) ≤ x.toInt ∧ x.toInt < 2 ^ (e + 1) ∧ (K3_61 x n).toInt = n.toInt - e := by
  have l : (4 : Int32).toInt = 4 := by decide
  by_cases c : x < 4
  · rw [K3_61, if_pos c]
    rw [Int32.lt_iff_toInt_lt, l] at c
    obtain ⟨e, a, b, d, f⟩ := own_73 h1 c (by omega) n2
    exact ⟨e, by omega, b, d, f⟩
  · rw [K3_61, if_neg c]
    rw [Int32.lt_iff_toInt_lt, l] at c
    have hs := own_sr (x := x) 2 2 (by decide) (by decide) (by omega)
    have hn := own_dn (n := n) (k := -2) (c := 2) (by decide) (by omega) (by omega)
    obtain ⟨e, a, b, d, f⟩ := own_73 (x := jushr x 2) (n := n + -2) (by rw [hs]; omega) (by rw [hs]; omega) (by omega) (by omega)
    have p1 := own_pw e 2
    have p2 := own_pw (e + 1) 2
    have p3 := own_pw e 1
    rw [show e + 1 + 2 = e + 2 + 1 from by omega] at p2
    exact ⟨e + 2, by omega, by omega, by omega, by omega⟩
theorem own_48 {x n : Int32} (h1 : 1 ≤ x.toInt) (h2 : x.toInt < 256) (n1 : 7 ≤ n.toInt) (n2 : n.toInt < 100) : ∃ e : Nat, e < 8 ∧ (2 ^ e : Int) ≤ x.toInt ∧ x.toInt < 2 ^ (e + 1) ∧ (K3_48 x n).toInt = n.toInt - e := by
  have l : (16 : Int32).toInt = 16 := by decide
  by_cases c : x < 16
  · rw [K3_48, if_pos c]
    rw [Int32.lt_iff_toInt_lt, l] at c
    obtain ⟨e, a, b, d, f⟩ := own_61 h1 c (by omega) n2
    exact ⟨e, by omega, b, d, f⟩
  · rw [K3_48, if_neg c]
    rw [Int32.lt_iff_toInt_lt, l] at c
    have hs := own_sr (x := x) 4 4 (by decide) (by decide) (by omega)
    have hn := own_dn (n := n) (k := -4) (c := 4) (by decide) (by omega) (by omega)
    obtain ⟨e, a, b, d, f⟩ := own_61 (x := jushr x 4) (n := n + -4) (by rw [hs]; omega) (by rw [hs]; omega) (by omega) (by omega)
    have p1 := own_pw e 4
    have p2 := own_pw (e + 1) 4
    have p3 := own_pw e 1
    rw [show e + 1 + 4 = e + 4 + 1 from by omega] at p2
    exact ⟨e + 4, by omega, by omega, by omega, by omega⟩
theorem own_33 {x n : Int32} (h1 : 1 ≤ x.toInt) (h2 : x.toInt < 65536) (n1 : 15 ≤ n.toInt) (n2 : n.toInt < 100) : ∃ e : Nat, e < 16 ∧ (2 ^ e : Int) ≤ x.toInt ∧ x.toInt < 2 ^ (e + 1) ∧ (K3_33 x n).toInt = n.toInt - e := by
  have l : (256 : Int32).toInt = 256 := by decide
  by_cases c : x < 256
  · rw [K3_33, if_pos c]
    rw [Int32.lt_iff_toInt_lt, l] at c
    obtain ⟨e, a, b, d, f⟩ := own_48 h1 c (by omega) n2
    exact ⟨e, by omega, b, d, f⟩
  · rw [K3_33, if_neg c]
    rw [Int32.lt_iff_toInt_lt, l] at c
    have hs := own_sr (x := x) 8 8 (by decide) (by decide) (by omega)
    have hn := own_dn (n := n) (k := -8) (c := 8) (by decide) (by omega) (by omega)
    obtain ⟨e, a, b, d, f⟩ := own_48 (x := jushr x 8) (n := n + -8) (by rw [hs]; omega) (by rw [hs]; omega) (by omega) (by omega)
    have p1 := own_pw e 8
    have p2 := own_pw (e + 1) 8
    have p3 := own_pw e 1
    rw [show e + 1 + 8 = e + 8 + 1 from by omega] at p2
    exact ⟨e + 8, by omega, by omega, by omega, by omega⟩
theorem own_nat32 (x : Int32) : (x.toBitVec.toNat : Int) = if 0 ≤ x.toInt then x.toInt else x.toInt + 4294967296 := by
  have h : x.toInt = x.toBitVec.toInt := rfl
  rw [h, BitVec.toInt_eq_toNat_cond]
  have := x.toBitVec.isLt
  split <;> split <;> omega
theorem own_nlz32 (x : Int32) (h : x ≠ 0) : ∃ e : Nat, e < 32 ∧ (2 ^ e : Int) ≤ x.toBitVec.toNat ∧ (x.toBitVec.toNat : Int) < 2 ^ (e + 1) ∧ (K3_0 x).toInt = 31 - e := by
  have hx : x.toInt ≠ 0 := fun q => h (own_toInt (q.trans own_zero.symm))
  have hn := own_nat32 x
  have l : (65536 : Int32).toInt = 65536 := by decide
  have hlt := x.toInt_lt
  have hle := x.le_toInt
  by_cases c : 0 < x
  · rw [K3_0, if_pos c]
    rw [Int32.lt_iff_toInt_lt, own_zero] at c
    rw [if_pos (by omega)] at hn
    by_cases c2 : x < 65536
    · rw [if_pos c2]
      rw [Int32.lt_iff_toInt_lt, l] at c2
      obtain ⟨e, a, b, d, f⟩ := own_33 (x := x) (n := 31) (by omega) c2 (by decide) (by decide)
      have e31 : (31 : Int32).toInt = 31 := by decide
      exact ⟨e, by omega, by omega, by omega, by omega⟩
    · rw [if_neg c2]
      rw [Int32.lt_iff_toInt_lt, l] at c2
      have hs := own_sr (x := x) 16 16 (by decide) (by decide) (by omega)
      obtain ⟨e, a, b, d, f⟩ := own_33 (x := jushr x 16) (n := 15) (by rw [hs]; omega) (by rw [hs]; omega) (by decide) (by decide)
      have e15 : (15 : Int32).toInt = 15 := by decide
      have p1 := own_pw e 16
      have p2 := own_pw (e + 1) 16
      have p3 := own_pw e 1
      rw [show e + 1 + 16 = e + 16 + 1 from by omega] at p2
      exact ⟨e + 16, by omega, by omega, by omega, by omega⟩
  · rw [K3_0, if_neg c, if_neg h]
    rw [Int32.lt_iff_toInt_lt, own_zero] at c
    rw [if_neg (by omega)] at hn
    exact ⟨31, by omega, by omega, by omega, by rw [own_zero]; omega⟩
theorem own_lo32 (x : Int64) : x.toInt32.toBitVec.toNat = x.toBitVec.toNat % 2 ^ 32 := by
  show (x.toBitVec.signExtend 32).toNat = _
  rw [BitVec.signExtend_eq_setWidth_of_le _ (by decide), BitVec.toNat_setWidth]
theorem own_nz32 {x : Int32} : (x = 0) ↔ x.toBitVec.toNat = 0 := by
  rw [← Int32.toBitVec_inj, ← BitVec.toNat_inj]; rfl
theorem own_nz64 {x : Int64} : (x = 0) ↔ x.toBitVec.toNat = 0 := by
  rw [← Int64.toBitVec_inj, ← BitVec.toNat_inj]; rfl
theorem own_nlz64 (x : Int64) (h : x ≠ 0) : ∃ e : Nat, e < 64 ∧ (2 ^ e : Int) ≤ x.toBitVec.toNat ∧ (x.toBitVec.toNat : Int) < 2 ^ (e + 1) ∧ (K2_0 x).toInt = 63 - e := by
  have hN := x.toBitVec.isLt
  have h0 : x.toBitVec.toNat ≠ 0 := fun q => h (own_nz64.mpr q)
  have hh : (jlushr x 32).toInt32.toBitVec.toNat = x.toBitVec.toNat / 2 ^ 32 := by
    rw [own_lo32, own_lushr_nat, show ((32 : Int32).toInt % 64).toNat = 32 from by decide]
    omega
  have l : (32 : Int32).toInt = 32 := by decide
  by_cases c : (jlushr x 32).toInt32 = 0
  · rw [K2_0, if_pos c]
    rw [own_nz32, hh] at c
    have hlo := own_lo32 x
    obtain ⟨e, a, b, d, f⟩ := own_nlz32 x.toInt32 (fun q => by rw [own_nz32, hlo] at q; omega)
    rw [hlo] at b d
    refine ⟨e, by omega, by omega, by omega, ?_⟩
    rw [Jvm.Kit.i32_add (by omega) (by omega), l, f]; omega
  · rw [K2_0, if_neg c]
    obtain ⟨e, a, b, d, f⟩ := own_nlz32 _ c
    rw [hh] at b d
    have p1 := own_pw e 32
    have p2 := own_pw (e + 1) 32
    have p3 := own_pw e 1
    rw [show e + 1 + 32 = e + 32 + 1 from by omega] at p2
    exact ⟨e + 32, by omega, by omega, by omega, by omega⟩
theorem own_law {top : Int64} {k n m : Int32} {N : Int} (h : ¬ top = 0) (hn : n.toInt = N * 64) (hm : m.toInt = (N - 1) * 64) (hN : 1 ≤ N ∧ N ≤ 4) (hk : k = (n - K2_0 top) - m) : ¬ k < 1 ∧ ¬ 64 < k ∧ jlushr top (k - 1) = 1 := by
  obtain ⟨e, a, b, d, f⟩ := own_nlz64 top h
  have k1 : (n - K2_0 top).toInt = N * 64 - 63 + e := by rw [Jvm.Kit.i32_sub (by omega) (by omega), f, hn]; omega
  have k2 : k.toInt = e + 1 := by rw [hk, Jvm.Kit.i32_sub (by omega) (by omega), k1, hm]; omega
  have k3 : (k - 1).toInt = e := by rw [Jvm.Kit.i32_sub (by rw [own_one]; omega) (by rw [own_one]; omega), own_one]; omega
  have l : (64 : Int32).toInt = 64 := by decide
  rw [Int32.lt_iff_toInt_lt, Int32.lt_iff_toInt_lt, own_one, l]
  refine ⟨by omega, by omega, ?_⟩
  apply Int64.toBitVec_inj.mp
  apply BitVec.eq_of_toNat_eq
  rw [own_lushr_nat, k3, show ((e : Int) % 64).toNat = e from by omega, show (1 : Int64).toBitVec.toNat = 1 from rfl]
  have b' : 2 ^ e ≤ top.toBitVec.toNat := by exact_mod_cast b
  have d' : top.toBitVec.toNat < 2 * 2 ^ e := by
    have : (2 ^ (e + 1) : Int) = 2 * 2 ^ e := own_pw e 1
    rw [this] at d
    exact_mod_cast d
  have hp : 0 < 2 ^ e := Nat.two_pow_pos e
  rw [Nat.div_eq_iff hp]
  omega
theorem own_four {x len : Int32} (h : len = (x &&& 2147483647) % 4) : len = 0 ∨ len = 1 ∨ len = 2 ∨ len = 3 := by
  have h0 := (own_m x 2147483647 (k := 31) (by decide) (by decide)).1
  have e4 : (4 : Int32).toInt = 4 := by decide
  have e : len.toInt = (x &&& 2147483647).toInt % 4 := by rw [h, Jvm.Kit.i32_rem_nonneg h0, e4]
  have e2 : (2 : Int32).toInt = 2 := by decide
  have e3 : (3 : Int32).toInt = 3 := by decide
  simp only [← Int32.toInt_inj, own_zero, own_one, e2, e3]
  omega
theorem ef_0 (m : MethodId) (x0 : Int64) (x1 : Int64) (x2 : Int64) (x3 : Int64) (x4 : Int32) : entryFrame m #[(.long x0), (.long x1), (.long x2), (.long x3), (.int x4)] maxLocals = mkF m 0 #[.val (.long x0), .second, .val (.long x1), .second, .val (.long x2), .second, .val (.long x3), .second, .val (.int x4), .unset, .unset, .unset, .unset, .unset, .unset] [] := by first | (simp [entryFrame, mkF, argsToLocals, Value.category, maxLocals]; done) | rfl
set_option maxRecDepth 65536 in
set_option maxHeartbeats 40000000 in
theorem rm0 (l : Launch) (Z : State) (a0 : Array Value) (hw : ∀ d ∈ tables_1, d.before a0 Z = true) (x0 : Int64) (x1 : Int64) (x2 : Int64) (x3 : Int64) (x4 : Int32) (h0 : Heap) (n0 : Nat) (Z0 : n0 ≤ h0.size) :
    Con l Z x code maxLocals ret room_1 #[(.long x0), (.long x1), (.long x2), (.long x3), (.int x4)] h0 (QL (some (.int 1)) n0) := by
  refine Con.of (plainFor_of_name (by first | (simp [plainName, overriddenIn]; done) | decide +kernel)) ?_
  intro p e s m below meth c T X hx hZ hby hml hown hnm hret hlk e0
  rw [ef_0]
  have N0 := Fr.nil n0
  show Go p e below s room_1.cells room_1.slots (QL (some (.int 1)) n0) T (mkF m 0 #[.val (.long x0), .second, .val (.long x1), .second, .val (.long x2), .second, .val (.long x3), .second, .val (.int x4), .unset, .unset, .unset, .unset, .unset, .unset] [])
  refine w_iconst (v := 4) X hx (hb hby at_0) (pc' := 1) rfl rfl ?_
  refine w_newJ X hx hZ (cap := 4) e0 (hw _ (List.mem_of_getElem? (i := 0) rfl)) (by decide) (by decide) (by decide) (by decide) (by decide) (hb hby at_1) (pc' := 3) rfl (fun T4 h4 b4 X4 e4 E4 q4 V4 => ?_)
  have g_b4 : n0 ≤ b4 := by rw [q4]; exact Z0
  have V4 : AJ Z h4 b4 [(0 : Int64), (0 : Int64), (0 : Int64), (0 : Int64)] := V4
  have zn4 : n0 ≤ h4.size := Nat.le_trans Z0 E4.1
  refine w_dup X4 hx (hb hby at_3) (pc' := 4) rfl rfl ?_
  refine w_iconst (v := 0) X4 hx (hb hby at_4) (pc' := 5) rfl rfl ?_
  refine w_lloadN X4 hx (hb hby at_5) (pc' := 6) rfl rfl ?_
  refine w_lastore X4 hx hZ e4 V4 (by decide) (by show _ < 4; decide) (hb hby at_6) (pc' := 7) rfl (fun T5 h5 X5 e5 W5 V5 => ?_)
  have V5 : AJ Z h5 b4 [x0, (0 : Int64), (0 : Int64), (0 : Int64)] := V5
  have N5 := Fr.snoc X5 N0 g_b4
  have zn5 : n0 ≤ h5.size := by rw [W5.size]; exact zn4
  refine w_dup X5 hx (hb hby at_7) (pc' := 8) rfl rfl ?_
  refine w_iconst (v := 1) X5 hx (hb hby at_8) (pc' := 9) rfl rfl ?_
  refine w_lloadN X5 hx (hb hby at_9) (pc' := 10) rfl rfl ?_
  refine w_lastore X5 hx hZ e5 V5 (by decide) (by show _ < 4; decide) (hb hby at_10) (pc' := 11) rfl (fun T6 h6 X6 e6 W6 V6 => ?_)
  have V6 : AJ Z h6 b4 [x0, x1, (0 : Int64), (0 : Int64)] := V6
  have N6 := Fr.snoc X6 N5 g_b4
  have zn6 : n0 ≤ h6.size := by rw [W6.size]; exact zn5
  refine w_dup X6 hx (hb hby at_11) (pc' := 12) rfl rfl ?_
  refine w_iconst (v := 2) X6 hx (hb hby at_12) (pc' := 13) rfl rfl ?_
  refine w_lload X6 hx (hb hby at_13) (pc' := 15) rfl rfl ?_
  refine w_lastore X6 hx hZ e6 V6 (by decide) (by show _ < 4; decide) (hb hby at_15) (pc' := 16) rfl (fun T7 h7 X7 e7 W7 V7 => ?_)
  have V7 : AJ Z h7 b4 [x0, x1, x2, (0 : Int64)] := V7
  have N7 := Fr.snoc X7 N6 g_b4
  have zn7 : n0 ≤ h7.size := by rw [W7.size]; exact zn6
  refine w_dup X7 hx (hb hby at_16) (pc' := 17) rfl rfl ?_
  refine w_iconst (v := 3) X7 hx (hb hby at_17) (pc' := 18) rfl rfl ?_
  refine w_lload X7 hx (hb hby at_18) (pc' := 20) rfl rfl ?_
  refine w_lastore X7 hx hZ e7 V7 (by decide) (by show _ < 4; decide) (hb hby at_20) (pc' := 21) rfl (fun T8 h8 X8 e8 W8 V8 => ?_)
  have V8 : AJ Z h8 b4 [x0, x1, x2, x3] := V8
  have N8 := Fr.snoc X8 N7 g_b4
  have zn8 : n0 ≤ h8.size := by rw [W8.size]; exact zn7
  refine w_astore (Ls' := #[.val (.long x0), .second, .val (.long x1), .second, .val (.long x2), .second, .val (.long x3), .second, .val (.int x4), .val (.ref b4), .unset, .unset, .unset, .unset, .unset]) X8 hx (hb hby at_21) (pc' := 23) rfl rfl rfl ?_
  refine w_iload X8 hx (hb hby at_23) (pc' := 25) rfl rfl ?_
  refine w_ldc X8 hx hZ hown (hw _ (List.mem_of_getElem? (i := 1) rfl)) (hb hby at_25) (pc' := 27) rfl ?_
  refine w_iand X8 hx (hb hby at_27) (pc' := 28) rfl ?_
  refine w_iconst (v := 4) X8 hx (hb hby at_28) (pc' := 29) rfl rfl ?_
  refine w_irem X8 hx (hb hby at_29) (pc' := 30) rfl (by decide) ?_
  refine w_istore (Ls' := #[.val (.long x0), .second, .val (.long x1), .second, .val (.long x2), .second, .val (.long x3), .second, .val (.int x4), .val (.ref b4), .val (.int ((x4 &&& (2147483647 : Int32)) % (4 : Int32))), .unset, .unset, .unset, .unset]) X8 hx (hb hby at_30) (pc' := 32) rfl rfl ?_
  obtain ⟨len, hlen⟩ : ∃ z : Int32, z = ((x4 &&& (2147483647 : Int32)) % (4 : Int32)) := ⟨_, rfl⟩
  rw [← hlen]
  rcases (own_four hlen) with rfl | rfl | rfl | rfl
  · refine w_iload X8 hx (hb hby at_32) (pc' := 34) rfl rfl ?_
    have hf34 : (0 : Int32) = (0 : Int32) := (by decide)
    refine w_if_ne X8 hx (hb hby at_34) (pf := 37) (pt := 52) rfl (by decide) (by decide) (fun hc => absurd hf34 hc) (fun hc34 => ?_)
    refine w_aload X8 hx (hb hby at_37) (pc' := 39) rfl rfl rfl ?_
    refine w_iconst (v := 0) X8 hx (hb hby at_39) (pc' := 40) rfl rfl ?_
    refine w_callS (argsL := [(.ref b4), (.int (0 : Int32))]) (rest := []) X8 hx hZ hown e8 (rm1 l Z a0 hw b4 (0 : Int32) h8 n0 [x0, x1, x2, x3] V8 (fun q => absurd rfl q)) (hw _ (List.mem_of_getElem? (i := 2) rfl)) (hw _ (List.mem_of_getElem? (i := 3) rfl)) (hw _ (List.mem_of_getElem? (i := 4) rfl)) (hw _ (List.mem_of_getElem? (i := 5) rfl)) (by decide) (by decide) (W := 0) (by decide) (by decide) (by decide) (by rw [hml]; rfl) (lenOf pd_2 rfl) (Nat.le_refl _) rfl (hb hby at_40) (pc' := 43) rfl (fun T9 L9 v9 X9 hQ9 => ?_)
    obtain ⟨rfl, N9q, e9⟩ := hQ9
    have N9 := Fr.app N8 N9q
    have X9 : Stand p l e room_1 s m _ below meth c T9 _ 1 4 := X9
    show Go p e below s room_1.cells room_1.slots (QL (some (.int 1)) n0) T9 (mkF m 43 #[.val (.long x0), .second, .val (.long x1), .second, .val (.long x2), .second, .val (.long x3), .second, .val (.int x4), .val (.ref b4), .val (.int (0 : Int32)), .unset, .unset, .unset, .unset] [(.int (K1_0 [x0, x1, x2, x3] (0 : Int32)))])
    have hf43 : (K1_0 [x0, x1, x2, x3] (0 : Int32)) = (0 : Int32) := rfl
    refine w_if_ne X9 hx (hb hby at_43) (pf := 46) (pt := 50) rfl (by decide) (by decide) (fun hc => absurd hf43 hc) (fun hc43 => ?_)
    refine w_iconst (v := 1) X9 hx (hb hby at_46) (pc' := 47) rfl rfl ?_
    refine w_goto X9 hx (hb hby at_47) (pc' := 51) (by decide) (by decide) ?_
    exact w_retZ X9 hx hret hlk (hb hby at_51) (by decide) (by decide) ⟨rfl, N9⟩
  · refine w_iload X8 hx (hb hby at_32) (pc' := 34) rfl rfl ?_
    have hf34 : ¬ ((1 : Int32) = (0 : Int32)) := (by decide)
    refine w_if_ne X8 hx (hb hby at_34) (pf := 37) (pt := 52) rfl (by decide) (by decide) (fun hc34 => ?_) (fun hc => absurd hc hf34)
    refine w_aload X8 hx (hb hby at_52) (pc' := 54) rfl rfl rfl ?_
    refine w_iload X8 hx (hb hby at_54) (pc' := 56) rfl rfl ?_
    refine w_iconst (v := 1) X8 hx (hb hby at_56) (pc' := 57) rfl rfl ?_
    refine w_isub X8 hx (hb hby at_57) (pc' := 58) rfl ?_
    rw [show ((1 : Int32) - (1 : Int32)) = (0 : Int32) from by decide]
    refine w_laload X8 hx hZ e8 V8 (v := x0) (by decide) rfl (hb hby at_58) (pc' := 59) rfl ?_
    refine w_lstore (Ls' := #[.val (.long x0), .second, .val (.long x1), .second, .val (.long x2), .second, .val (.long x3), .second, .val (.int x4), .val (.ref b4), .val (.int (1 : Int32)), .val (.long x0), .second, .unset, .unset]) X8 hx (hb hby at_59) (pc' := 61) rfl rfl ?_
    refine w_lload X8 hx (hb hby at_61) (pc' := 63) rfl rfl ?_
    refine w_lconst (v := 0) X8 hx (hb hby at_63) (pc' := 64) rfl rfl ?_
    refine w_lcmp X8 hx (hb hby at_64) (pc' := 65) rfl ?_
    refine w_ifL_ne X8 hx (hb hby at_65) (pf := 68) (pt := 70) rfl (by decide) (by decide) (fun hc65 => ?_) (fun hc65 => ?_)
    · refine w_aload X8 hx (hb hby at_70) (pc' := 72) rfl rfl rfl ?_
      refine w_iload X8 hx (hb hby at_72) (pc' := 74) rfl rfl ?_
      refine w_callS (argsL := [(.ref b4), (.int (1 : Int32))]) (rest := []) X8 hx hZ hown e8 (rm1 l Z a0 hw b4 (1 : Int32) h8 n0 [x0, x1, x2, x3] V8 (fun _ => ⟨by decide, by show _ < 4; decide⟩)) (hw _ (List.mem_of_getElem? (i := 2) rfl)) (hw _ (List.mem_of_getElem? (i := 3) rfl)) (hw _ (List.mem_of_getElem? (i := 4) rfl)) (hw _ (List.mem_of_getElem? (i := 5) rfl)) (by decide) (by decide) (W := 0) (by decide) (by decide) (by decide) (by rw [hml]; rfl) (lenOf pd_2 rfl) (Nat.le_refl _) rfl (hb hby at_74) (pc' := 77) rfl (fun T10 L10 v10 X10 hQ10 => ?_)
      obtain ⟨rfl, N10q, e10⟩ := hQ10
      have N10 := Fr.app N8 N10q
      have X10 : Stand p l e room_1 s m _ below meth c T10 _ 1 4 := X10
      show Go p e below s room_1.cells room_1.slots (QL (some (.int 1)) n0) T10 (mkF m 77 #[.val (.long x0), .second, .val (.long x1), .second, .val (.long x2), .second, .val (.long x3), .second, .val (.int x4), .val (.ref b4), .val (.int (1 : Int32)), .val (.long x0), .second, .unset, .unset] [(.int (K1_0 [x0, x1, x2, x3] (1 : Int32)))])
      refine w_istore (Ls' := #[.val (.long x0), .second, .val (.long x1), .second, .val (.long x2), .second, .val (.long x3), .second, .val (.int x4), .val (.ref b4), .val (.int (1 : Int32)), .val (.long x0), .second, .val (.int (K1_0 [x0, x1, x2, x3] (1 : Int32))), .unset]) X10 hx (hb hby at_77) (pc' := 79) rfl rfl ?_
      refine w_iload X10 hx (hb hby at_79) (pc' := 81) rfl rfl ?_
      refine w_iload X10 hx (hb hby at_81) (pc' := 83) rfl rfl ?_
      refine w_iconst (v := 1) X10 hx (hb hby at_83) (pc' := 84) rfl rfl ?_
      refine w_isub X10 hx (hb hby at_84) (pc' := 85) rfl ?_
      rw [show ((1 : Int32) - (1 : Int32)) = (0 : Int32) from by decide]
      refine w_bipush (v := 64) X10 hx (hb hby at_85) (pc' := 87) rfl rfl ?_
      refine w_imul X10 hx (hb hby at_87) (pc' := 88) rfl ?_
      rw [show ((0 : Int32) * (64 : Int32)) = (0 : Int32) from by decide]
      refine w_isub X10 hx (hb hby at_88) (pc' := 89) rfl ?_
      refine w_istore (Ls' := #[.val (.long x0), .second, .val (.long x1), .second, .val (.long x2), .second, .val (.long x3), .second, .val (.int x4), .val (.ref b4), .val (.int (1 : Int32)), .val (.long x0), .second, .val (.int (K1_0 [x0, x1, x2, x3] (1 : Int32))), .val (.int ((K1_0 [x0, x1, x2, x3] (1 : Int32)) - (0 : Int32)))]) X10 hx (hb hby at_89) (pc' := 91) rfl rfl ?_
      obtain ⟨k, hk⟩ : ∃ z : Int32, z = ((K1_0 [x0, x1, x2, x3] (1 : Int32)) - (0 : Int32)) := ⟨_, rfl⟩
      rw [← hk]
      refine w_iload X10 hx (hb hby at_91) (pc' := 93) rfl rfl ?_
      refine w_iconst (v := 1) X10 hx (hb hby at_93) (pc' := 94) rfl rfl ?_
      have hf94 : ¬ (k < (1 : Int32)) := (own_law (N := 1) (n := (1 : Int32) * 64) (m := (0 : Int32)) hc65 (by decide) (by decide) (by decide) hk).1
      refine w_icmp_lt X10 hx (hb hby at_94) (pf := 97) (pt := 120) rfl (by decide) (by decide) (fun hc => absurd hc hf94) (fun hc94 => ?_)
      refine w_iload X10 hx (hb hby at_97) (pc' := 99) rfl rfl ?_
      refine w_bipush (v := 64) X10 hx (hb hby at_99) (pc' := 101) rfl rfl ?_
      have hf101 : ¬ ((64 : Int32) < k) := (own_law (N := 1) (n := (1 : Int32) * 64) (m := (0 : Int32)) hc65 (by decide) (by decide) (by decide) hk).2.1
      refine w_icmp_gt X10 hx (hb hby at_101) (pf := 104) (pt := 120) rfl (by decide) (by decide) (fun hc => absurd hc hf101) (fun hc101 => ?_)
      refine w_lload X10 hx (hb hby at_104) (pc' := 106) rfl rfl ?_
      refine w_iload X10 hx (hb hby at_106) (pc' := 108) rfl rfl ?_
      refine w_iconst (v := 1) X10 hx (hb hby at_108) (pc' := 109) rfl rfl ?_
      refine w_isub X10 hx (hb hby at_109) (pc' := 110) rfl ?_
      refine w_lushr X10 hx (hb hby at_110) (pc' := 111) rfl ?_
      refine w_lconst (v := 1) X10 hx (hb hby at_111) (pc' := 112) rfl rfl ?_
      refine w_lcmp X10 hx (hb hby at_112) (pc' := 113) rfl ?_
      have hf113 : (jlushr x0 (k - (1 : Int32))) = (1 : Int64) := (own_law (N := 1) (n := (1 : Int32) * 64) (m := (0 : Int32)) hc65 (by decide) (by decide) (by decide) hk).2.2
      refine w_ifL_ne X10 hx (hb hby at_113) (pf := 116) (pt := 120) rfl (by decide) (by decide) (fun hc => absurd hf113 hc) (fun hc113 => ?_)
      refine w_iconst (v := 1) X10 hx (hb hby at_116) (pc' := 117) rfl rfl ?_
      refine w_goto X10 hx (hb hby at_117) (pc' := 121) (by decide) (by decide) ?_
      exact w_retZ X10 hx hret hlk (hb hby at_121) (by decide) (by decide) ⟨rfl, N10⟩
    · refine w_iconst (v := 1) X8 hx (hb hby at_68) (pc' := 69) rfl rfl ?_
      exact w_retZ X8 hx hret hlk (hb hby at_69) (by decide) (by decide) ⟨rfl, N8⟩
  · refine w_iload X8 hx (hb hby at_32) (pc' := 34) rfl rfl ?_
    have hf34 : ¬ ((2 : Int32) = (0 : Int32)) := (by decide)
    refine w_if_ne X8 hx (hb hby at_34) (pf := 37) (pt := 52) rfl (by decide) (by decide) (fun hc34 => ?_) (fun hc => absurd hc hf34)
    refine w_aload X8 hx (hb hby at_52) (pc' := 54) rfl rfl rfl ?_
    refine w_iload X8 hx (hb hby at_54) (pc' := 56) rfl rfl ?_
    refine w_iconst (v := 1) X8 hx (hb hby at_56) (pc' := 57) rfl rfl ?_
    refine w_isub X8 hx (hb hby at_57) (pc' := 58) rfl ?_
    rw [show ((2 : Int32) - (1 : Int32)) = (1 : Int32) from by decide]
    refine w_laload X8 hx hZ e8 V8 (v := x1) (by decide) rfl (hb hby at_58) (pc' := 59) rfl ?_
    refine w_lstore (Ls' := #[.val (.long x0), .second, .val (.long x1), .second, .val (.long x2), .second, .val (.long x3), .second, .val (.int x4), .val (.ref b4), .val (.int (2 : Int32)), .val (.long x1), .second, .unset, .unset]) X8 hx (hb hby at_59) (pc' := 61) rfl rfl ?_
    refine w_lload X8 hx (hb hby at_61) (pc' := 63) rfl rfl ?_
    refine w_lconst (v := 0) X8 hx (hb hby at_63) (pc' := 64) rfl rfl ?_
    refine w_lcmp X8 hx (hb hby at_64) (pc' := 65) rfl ?_
    refine w_ifL_ne X8 hx (hb hby at_65) (pf := 68) (pt := 70) rfl (by decide) (by decide) (fun hc65 => ?_) (fun hc65 => ?_)
    · refine w_aload X8 hx (hb hby at_70) (pc' := 72) rfl rfl rfl ?_
      refine w_iload X8 hx (hb hby at_72) (pc' := 74) rfl rfl ?_
      refine w_callS (argsL := [(.ref b4), (.int (2 : Int32))]) (rest := []) X8 hx hZ hown e8 (rm1 l Z a0 hw b4 (2 : Int32) h8 n0 [x0, x1, x2, x3] V8 (fun _ => ⟨by decide, by show _ < 4; decide⟩)) (hw _ (List.mem_of_getElem? (i := 2) rfl)) (hw _ (List.mem_of_getElem? (i := 3) rfl)) (hw _ (List.mem_of_getElem? (i := 4) rfl)) (hw _ (List.mem_of_getElem? (i := 5) rfl)) (by decide) (by decide) (W := 0) (by decide) (by decide) (by decide) (by rw [hml]; rfl) (lenOf pd_2 rfl) (Nat.le_refl _) rfl (hb hby at_74) (pc' := 77) rfl (fun T11 L11 v11 X11 hQ11 => ?_)
      obtain ⟨rfl, N11q, e11⟩ := hQ11
      have N11 := Fr.app N8 N11q
      have X11 : Stand p l e room_1 s m _ below meth c T11 _ 1 4 := X11
      show Go p e below s room_1.cells room_1.slots (QL (some (.int 1)) n0) T11 (mkF m 77 #[.val (.long x0), .second, .val (.long x1), .second, .val (.long x2), .second, .val (.long x3), .second, .val (.int x4), .val (.ref b4), .val (.int (2 : Int32)), .val (.long x1), .second, .unset, .unset] [(.int (K1_0 [x0, x1, x2, x3] (2 : Int32)))])
      refine w_istore (Ls' := #[.val (.long x0), .second, .val (.long x1), .second, .val (.long x2), .second, .val (.long x3), .second, .val (.int x4), .val (.ref b4), .val (.int (2 : Int32)), .val (.long x1), .second, .val (.int (K1_0 [x0, x1, x2, x3] (2 : Int32))), .unset]) X11 hx (hb hby at_77) (pc' := 79) rfl rfl ?_
      refine w_iload X11 hx (hb hby at_79) (pc' := 81) rfl rfl ?_
      refine w_iload X11 hx (hb hby at_81) (pc' := 83) rfl rfl ?_
      refine w_iconst (v := 1) X11 hx (hb hby at_83) (pc' := 84) rfl rfl ?_
      refine w_isub X11 hx (hb hby at_84) (pc' := 85) rfl ?_
      rw [show ((2 : Int32) - (1 : Int32)) = (1 : Int32) from by decide]
      refine w_bipush (v := 64) X11 hx (hb hby at_85) (pc' := 87) rfl rfl ?_
      refine w_imul X11 hx (hb hby at_87) (pc' := 88) rfl ?_
      rw [show ((1 : Int32) * (64 : Int32)) = (64 : Int32) from by decide]
      refine w_isub X11 hx (hb hby at_88) (pc' := 89) rfl ?_
      refine w_istore (Ls' := #[.val (.long x0), .second, .val (.long x1), .second, .val (.long x2), .second, .val (.long x3), .second, .val (.int x4), .val (.ref b4), .val (.int (2 : Int32)), .val (.long x1), .second, .val (.int (K1_0 [x0, x1, x2, x3] (2 : Int32))), .val (.int ((K1_0 [x0, x1, x2, x3] (2 : Int32)) - (64 : Int32)))]) X11 hx (hb hby at_89) (pc' := 91) rfl rfl ?_
      obtain ⟨k, hk⟩ : ∃ z : Int32, z = ((K1_0 [x0, x1, x2, x3] (2 : Int32)) - (64 : Int32)) := ⟨_, rfl⟩
      rw [← hk]
      refine w_iload X11 hx (hb hby at_91) (pc' := 93) rfl rfl ?_
      refine w_iconst (v := 1) X11 hx (hb hby at_93) (pc' := 94) rfl rfl ?_
      have hf94 : ¬ (k < (1 : Int32)) := (own_law (N := 2) (n := (2 : Int32) * 64) (m := (64 : Int32)) hc65 (by decide) (by decide) (by decide) hk).1
      refine w_icmp_lt X11 hx (hb hby at_94) (pf := 97) (pt := 120) rfl (by decide) (by decide) (fun hc => absurd hc hf94) (fun hc94 => ?_)
      refine w_iload X11 hx (hb hby at_97) (pc' := 99) rfl rfl ?_
      refine w_bipush (v := 64) X11 hx (hb hby at_99) (pc' := 101) rfl rfl ?_
      have hf101 : ¬ ((64 : Int32) < k) := (own_law (N := 2) (n := (2 : Int32) * 64) (m := (64 : Int32)) hc65 (by decide) (by decide) (by decide) hk).2.1
      refine w_icmp_gt X11 hx (hb hby at_101) (pf := 104) (pt := 120) rfl (by decide) (by decide) (fun hc => absurd hc hf101) (fun hc101 => ?_)
      refine w_lload X11 hx (hb hby at_104) (pc' := 106) rfl rfl ?_
      refine w_iload X11 hx (hb hby at_106) (pc' := 108) rfl rfl ?_
      refine w_iconst (v := 1) X11 hx (hb hby at_108) (pc' := 109) rfl rfl ?_
      refine w_isub X11 hx (hb hby at_109) (pc' := 110) rfl ?_
      refine w_lushr X11 hx (hb hby at_110) (pc' := 111) rfl ?_
      refine w_lconst (v := 1) X11 hx (hb hby at_111) (pc' := 112) rfl rfl ?_
      refine w_lcmp X11 hx (hb hby at_112) (pc' := 113) rfl ?_
      have hf113 : (jlushr x1 (k - (1 : Int32))) = (1 : Int64) := (own_law (N := 2) (n := (2 : Int32) * 64) (m := (64 : Int32)) hc65 (by decide) (by decide) (by decide) hk).2.2
      refine w_ifL_ne X11 hx (hb hby at_113) (pf := 116) (pt := 120) rfl (by decide) (by decide) (fun hc => absurd hf113 hc) (fun hc113 => ?_)
      refine w_iconst (v := 1) X11 hx (hb hby at_116) (pc' := 117) rfl rfl ?_
      refine w_goto X11 hx (hb hby at_117) (pc' := 121) (by decide) (by decide) ?_
      exact w_retZ X11 hx hret hlk (hb hby at_121) (by decide) (by decide) ⟨rfl, N11⟩
    · refine w_iconst (v := 1) X8 hx (hb hby at_68) (pc' := 69) rfl rfl ?_
      exact w_retZ X8 hx hret hlk (hb hby at_69) (by decide) (by decide) ⟨rfl, N8⟩
  · refine w_iload X8 hx (hb hby at_32) (pc' := 34) rfl rfl ?_
    have hf34 : ¬ ((3 : Int32) = (0 : Int32)) := (by decide)
    refine w_if_ne X8 hx (hb hby at_34) (pf := 37) (pt := 52) rfl (by decide) (by decide) (fun hc34 => ?_) (fun hc => absurd hc hf34)
    refine w_aload X8 hx (hb hby at_52) (pc' := 54) rfl rfl rfl ?_
    refine w_iload X8 hx (hb hby at_54) (pc' := 56) rfl rfl ?_
    refine w_iconst (v := 1) X8 hx (hb hby at_56) (pc' := 57) rfl rfl ?_
    refine w_isub X8 hx (hb hby at_57) (pc' := 58) rfl ?_
    rw [show ((3 : Int32) - (1 : Int32)) = (2 : Int32) from by decide]
    refine w_laload X8 hx hZ e8 V8 (v := x2) (by decide) rfl (hb hby at_58) (pc' := 59) rfl ?_
    refine w_lstore (Ls' := #[.val (.long x0), .second, .val (.long x1), .second, .val (.long x2), .second, .val (.long x3), .second, .val (.int x4), .val (.ref b4), .val (.int (3 : Int32)), .val (.long x2), .second, .unset, .unset]) X8 hx (hb hby at_59) (pc' := 61) rfl rfl ?_
    refine w_lload X8 hx (hb hby at_61) (pc' := 63) rfl rfl ?_
    refine w_lconst (v := 0) X8 hx (hb hby at_63) (pc' := 64) rfl rfl ?_
    refine w_lcmp X8 hx (hb hby at_64) (pc' := 65) rfl ?_
    refine w_ifL_ne X8 hx (hb hby at_65) (pf := 68) (pt := 70) rfl (by decide) (by decide) (fun hc65 => ?_) (fun hc65 => ?_)
    · refine w_aload X8 hx (hb hby at_70) (pc' := 72) rfl rfl rfl ?_
      refine w_iload X8 hx (hb hby at_72) (pc' := 74) rfl rfl ?_
      refine w_callS (argsL := [(.ref b4), (.int (3 : Int32))]) (rest := []) X8 hx hZ hown e8 (rm1 l Z a0 hw b4 (3 : Int32) h8 n0 [x0, x1, x2, x3] V8 (fun _ => ⟨by decide, by show _ < 4; decide⟩)) (hw _ (List.mem_of_getElem? (i := 2) rfl)) (hw _ (List.mem_of_getElem? (i := 3) rfl)) (hw _ (List.mem_of_getElem? (i := 4) rfl)) (hw _ (List.mem_of_getElem? (i := 5) rfl)) (by decide) (by decide) (W := 0) (by decide) (by decide) (by decide) (by rw [hml]; rfl) (lenOf pd_2 rfl) (Nat.le_refl _) rfl (hb hby at_74) (pc' := 77) rfl (fun T12 L12 v12 X12 hQ12 => ?_)
      obtain ⟨rfl, N12q, e12⟩ := hQ12
      have N12 := Fr.app N8 N12q
      have X12 : Stand p l e room_1 s m _ below meth c T12 _ 1 4 := X12
      show Go p e below s room_1.cells room_1.slots (QL (some (.int 1)) n0) T12 (mkF m 77 #[.val (.long x0), .second, .val (.long x1), .second, .val (.long x2), .second, .val (.long x3), .second, .val (.int x4), .val (.ref b4), .val (.int (3 : Int32)), .val (.long x2), .second, .unset, .unset] [(.int (K1_0 [x0, x1, x2, x3] (3 : Int32)))])
      refine w_istore (Ls' := #[.val (.long x0), .second, .val (.long x1), .second, .val (.long x2), .second, .val (.long x3), .second, .val (.int x4), .val (.ref b4), .val (.int (3 : Int32)), .val (.long x2), .second, .val (.int (K1_0 [x0, x1, x2, x3] (3 : Int32))), .unset]) X12 hx (hb hby at_77) (pc' := 79) rfl rfl ?_
      refine w_iload X12 hx (hb hby at_79) (pc' := 81) rfl rfl ?_
      refine w_iload X12 hx (hb hby at_81) (pc' := 83) rfl rfl ?_
      refine w_iconst (v := 1) X12 hx (hb hby at_83) (pc' := 84) rfl rfl ?_
      refine w_isub X12 hx (hb hby at_84) (pc' := 85) rfl ?_
      rw [show ((3 : Int32) - (1 : Int32)) = (2 : Int32) from by decide]
      refine w_bipush (v := 64) X12 hx (hb hby at_85) (pc' := 87) rfl rfl ?_
      refine w_imul X12 hx (hb hby at_87) (pc' := 88) rfl ?_
      rw [show ((2 : Int32) * (64 : Int32)) = (128 : Int32) from by decide]
      refine w_isub X12 hx (hb hby at_88) (pc' := 89) rfl ?_
      refine w_istore (Ls' := #[.val (.long x0), .second, .val (.long x1), .second, .val (.long x2), .second, .val (.long x3), .second, .val (.int x4), .val (.ref b4), .val (.int (3 : Int32)), .val (.long x2), .second, .val (.int (K1_0 [x0, x1, x2, x3] (3 : Int32))), .val (.int ((K1_0 [x0, x1, x2, x3] (3 : Int32)) - (128 : Int32)))]) X12 hx (hb hby at_89) (pc' := 91) rfl rfl ?_
      obtain ⟨k, hk⟩ : ∃ z : Int32, z = ((K1_0 [x0, x1, x2, x3] (3 : Int32)) - (128 : Int32)) := ⟨_, rfl⟩
      rw [← hk]
      refine w_iload X12 hx (hb hby at_91) (pc' := 93) rfl rfl ?_
      refine w_iconst (v := 1) X12 hx (hb hby at_93) (pc' := 94) rfl rfl ?_
      have hf94 : ¬ (k < (1 : Int32)) := (own_law (N := 3) (n := (3 : Int32) * 64) (m := (128 : Int32)) hc65 (by decide) (by decide) (by decide) hk).1
      refine w_icmp_lt X12 hx (hb hby at_94) (pf := 97) (pt := 120) rfl (by decide) (by decide) (fun hc => absurd hc hf94) (fun hc94 => ?_)
      refine w_iload X12 hx (hb hby at_97) (pc' := 99) rfl rfl ?_
      refine w_bipush (v := 64) X12 hx (hb hby at_99) (pc' := 101) rfl rfl ?_
      have hf101 : ¬ ((64 : Int32) < k) := (own_law (N := 3) (n := (3 : Int32) * 64) (m := (128 : Int32)) hc65 (by decide) (by decide) (by decide) hk).2.1
      refine w_icmp_gt X12 hx (hb hby at_101) (pf := 104) (pt := 120) rfl (by decide) (by decide) (fun hc => absurd hc hf101) (fun hc101 => ?_)
      refine w_lload X12 hx (hb hby at_104) (pc' := 106) rfl rfl ?_
      refine w_iload X12 hx (hb hby at_106) (pc' := 108) rfl rfl ?_
      refine w_iconst (v := 1) X12 hx (hb hby at_108) (pc' := 109) rfl rfl ?_
      refine w_isub X12 hx (hb hby at_109) (pc' := 110) rfl ?_
      refine w_lushr X12 hx (hb hby at_110) (pc' := 111) rfl ?_
      refine w_lconst (v := 1) X12 hx (hb hby at_111) (pc' := 112) rfl rfl ?_
      refine w_lcmp X12 hx (hb hby at_112) (pc' := 113) rfl ?_
      have hf113 : (jlushr x2 (k - (1 : Int32))) = (1 : Int64) := (own_law (N := 3) (n := (3 : Int32) * 64) (m := (128 : Int32)) hc65 (by decide) (by decide) (by decide) hk).2.2
      refine w_ifL_ne X12 hx (hb hby at_113) (pf := 116) (pt := 120) rfl (by decide) (by decide) (fun hc => absurd hf113 hc) (fun hc113 => ?_)
      refine w_iconst (v := 1) X12 hx (hb hby at_116) (pc' := 117) rfl rfl ?_
      refine w_goto X12 hx (hb hby at_117) (pc' := 121) (by decide) (by decide) ?_
      exact w_retZ X12 hx hret hlk (hb hby at_121) (by decide) (by decide) ⟨rfl, N12⟩
    · refine w_iconst (v := 1) X8 hx (hb hby at_68) (pc' := 69) rfl rfl ?_
      exact w_retZ X8 hx hret hlk (hb hby at_69) (by decide) (by decide) ⟨rfl, N8⟩
set_option maxRecDepth 65536 in
set_option maxHeartbeats 40000000 in
theorem comes_1 {Post : Tables → Env → Array Value → State → Outcome → State → Prop} (hpost : ∀ tb e args s v u, (limb_1_1.after args s (.returned v) u = true ∧ limb_1_2.after args s (.returned v) u = true ∧ True) → FrameEnd s (.returned v) u (Jvm.fieldLocs frame_1_writes args s ++ Jvm.arrayLocs frame_1_arrays args s ++ Jvm.staticLocs frame_1_statics s) 16 128 → Post tb e args s (.returned v) u) :
    ArmFor flags0 classFile x code maxLocals ret World_1 tables_1 room_1 Calls_1 rest_1 Pre_1 Post := by
  intro l hfl _ _ p e ha hc hk s m args below hf hA hF happ hP
  obtain ⟨hcalls, hrest, hpre⟩ := hP
  obtain ⟨-, -, -, hnamed, -, -, -, hat⟩ := (Spec.applies_iff hf).mp happ
  obtain ⟨hg, hn⟩ := and_e (Cond.before_iff.mp (show (Jvm.Cond.and given_1 narrow_1).before args s = true from hpre))
  obtain ⟨g1, g2⟩ := and_e hg
  obtain ⟨g3, g4⟩ := and_e g2
  obtain ⟨g5, g6⟩ := and_e g4
  obtain ⟨g7, g8⟩ := and_e g6
  obtain ⟨g9, g10⟩ := and_e g8
  obtain ⟨w0, w1, w2, w3, w4, rfl⟩ : ∃ w0 w1 w2 w3 w4 : Value, args = #[w0, w1, w2, w3, w4] := by
    have hs : args.size = 5 := by simpa [Cond.value, given_1] using g1
    obtain ⟨L⟩ := args
    match L, hs with
    | [w0, w1, w2, w3, w4], _ => exact ⟨w0, w1, w2, w3, w4, rfl⟩
  have hw := fun d (hd : d ∈ tables_1) => atoms_spec (ws := Jvm.Cond.code x code maxLocals ret :: tables_1) hat d (List.mem_cons_of_mem _ hd)
  obtain ⟨i0, ei0⟩ := isL_v g3
  obtain rfl : w0 = (.long i0) := Option.some.inj ei0
  obtain ⟨i1, ei1⟩ := isL_v g5
  obtain rfl : w1 = (.long i1) := Option.some.inj ei1
  obtain ⟨i2, ei2⟩ := isL_v g7
  obtain rfl : w2 = (.long i2) := Option.some.inj ei2
  obtain ⟨i3, ei3⟩ := isL_v g9
  obtain rfl : w3 = (.long i3) := Option.some.inj ei3
  obtain ⟨i4, ei4⟩ := is_v g10
  obtain rfl : w4 = (.int i4) := Option.some.inj ei4
  have C := rm0 l s _ hw i0 i1 i2 i3 i4 s.heap s.heap.size (Nat.le_refl _)
  obtain ⟨n, o, h1, h2, h3, v, L, rfl, ⟨rfl, N⟩, hq⟩ := C tables_1 p e ha hc hk s m _ below hf ((Spec.applies_iff_loose hf).mp happ).1 ⟨rfl, State.Warmed39.refl s, rfl⟩ trivial
  refine ⟨n, _, h1, h2, h3, hpost _ _ _ _ _ _ ⟨Cond.after_iff.mpr rfl, Cond.after_iff.mpr (eq_i res_at (Term.int_eval (1)) rfl), trivial⟩ ⟨hq.1, hq.2.1, (hq.2.2.sift fun y hy => Or.inr (N y hy)).mono (by decide) (by decide)⟩⟩
theorem main_1_1 : Claimed_1_1 := comes_1 fun _ _ _ _ _ _ h hF => ⟨h.1, hF⟩
theorem main_1_2 : Claimed_1_2 := comes_1 fun _ _ _ _ _ _ h hF => ⟨h.2.1, hF⟩
end Jvm.Pilot.@@N@@
namespace Jvm.Pilot.@@N@@
open Jvm Jvm.ClassFile Sem Op Lib Jvm.Free Jvm.Stand Jvm.Pilot.@@N@@.Jvm.D
/-! MADE BY PROGRAM (witnessworld.py) out of the Statement's table words and the real class files: 17 classes; the members and pool entries that the words name. The judged class is class 1, her method 1. -/
namespace start1
open Jvm.ClassFile
def u (s : String) : CpInfo := .utf8 (stringToUtf16 s)
/-- a pool by its gaps: so many unusable entries, then the entry; so many at the end -/
def gap : Nat → List CpInfo → List CpInfo
  | 0, r => r
  | n + 1, r => .unusable :: gap n r
def poolList (es : List (Nat × CpInfo)) (last : Nat) : List CpInfo := es.foldr (fun e r => gap e.1 (e.2 :: r)) (gap last [])
def pool (es : List (Nat × CpInfo)) (last : Nat) : Array CpInfo := ⟨poolList es last⟩
def fileOf (pool : Array CpInfo) (this : Nat) (attrs : Array Attribute := #[]) (ms : Array MethodInfo := #[]) (fl : Nat := 33) (sup : Nat := 0) (ifs : Array Nat := #[]) (fds : Array FieldInfo := #[]) : ClassFile where
  minorVersion := 0
  majorVersion := 65
  constantPool := pool
  accessFlags := fl
  thisClass := this
  superClass := sup
  interfaces := ifs
  fields := fds
  methods := ms
  attributes := attrs
def plain (name : String) (sup : Option ClassId) : Class where
  name := name
  kind := .ordinary
  loader := none
  accessFlags := 33
  super := sup
  interfaces := #[]
  cf := none
  fields := #[]
  methods := #[]
  instanceTypes := #[]
  staticTypes := #[]
  resolved := #[]
  callSites := []
  init := .initialized
  statics := none
  mirror := none

def pool0 : Array CpInfo := pool [(5, u "<init>"), (0, u "()V"), (1, .class_ 10), (1, u "java/lang/Object")] 113

def k0m0 : Method := { name := "<init>", desc := "()V", sig := { parameters := [], returnType := none }, accessFlags := 1, code := none }
/-- java/lang/Object -/
def k0 : Class := { plain "java/lang/Object" none with
  accessFlags := 33
  interfaces := #[]
  cf := some (fileOf pool0 8 #[] #[{ accessFlags := 1, nameIndex := 5, descriptorIndex := 6, attributes := #[] }] 33 0 #[] #[])
  fields := #[]
  methods := #[k0m0]
  instanceTypes := #[]
  staticTypes := #[]
  resolved := Array.replicate 124 none
  statics := none }

def pool1 : Array CpInfo := pool [(2, .class_ 4), (1, u "java/lang/Object"), (0, u "<init>"), (0, u "()V"), (0, .integer 2147483647), (0, .methodref 9 10), (0, .class_ 11), (0, .nameAndType 12 13), (0, u "com/example/curves_to_bounds/curvestobounds/Words"), (0, u "bitLength"), (0, u "([JI)I"), (0, .class_ 15), (0, u "com/example/curves_to_bounds/curvestobounds/WordsBitLengthPinLaw"), (2, u "law"), (0, u "(JJJJI)Z")] 5

def k1m0 : Method := { name := "<init>", desc := "()V", sig := { parameters := [], returnType := none }, accessFlags := 2, code := none }
def k1c1 : Code := { maxStack := 5, maxLocals := 15, code := code, exceptionTable := #[], attributes := #[] }
def k1m1 : Method := { name := "law", desc := "(JJJJI)Z", sig := { parameters := [.long, .long, .long, .long, .int], returnType := some .boolean }, accessFlags := 9, code := some k1c1 }
/-- com/example/curves_to_bounds/curvestobounds/WordsBitLengthPinLaw -/
def k1 : Class := { plain "com/example/curves_to_bounds/curvestobounds/WordsBitLengthPinLaw" (some 0) with
  accessFlags := 49
  interfaces := #[]
  cf := some (fileOf pool1 14 #[] #[{ accessFlags := 2, nameIndex := 5, descriptorIndex := 6, attributes := #[] }, { accessFlags := 9, nameIndex := 18, descriptorIndex := 19, attributes := #[] }] 49 2 #[] #[])
  fields := #[]
  methods := #[k1m0, k1m1]
  instanceTypes := #[]
  staticTypes := #[]
  resolved := Array.replicate 25 none
  statics := none }

def pool2 : Array CpInfo := pool [(2, .class_ 4), (1, u "java/lang/Object"), (0, u "<init>"), (0, u "()V"), (6, .class_ 14), (0, u "java/lang/Long"), (11, .methodref 13 27), (0, .nameAndType 28 29), (0, u "numberOfLeadingZeros"), (0, u "(J)I"), (0, .class_ 31), (0, u "com/example/curves_to_bounds/curvestobounds/Words"), (12, u "([JI)I"), (0, u "bitLength")] 2

def k2m0 : Method := { name := "<init>", desc := "()V", sig := { parameters := [], returnType := none }, accessFlags := 2, code := none }
def k2c1 : Code := { maxStack := 4, maxLocals := 2, code := prog_54_method_5_code, exceptionTable := #[], attributes := #[] }
def k2m1 : Method := { name := "bitLength", desc := "([JI)I", sig := { parameters := [(.array .long), .int], returnType := some .int }, accessFlags := 8, code := some k2c1 }
/-- com/example/curves_to_bounds/curvestobounds/Words -/
def k2 : Class := { plain "com/example/curves_to_bounds/curvestobounds/Words" (some 0) with
  accessFlags := 32
  interfaces := #[]
  cf := some (fileOf pool2 30 #[] #[{ accessFlags := 2, nameIndex := 5, descriptorIndex := 6, attributes := #[] }, { accessFlags := 8, nameIndex := 45, descriptorIndex := 44, attributes := #[] }] 32 2 #[] #[])
  fields := #[]
  methods := #[k2m0, k2m1]
  instanceTypes := #[]
  staticTypes := #[]
  resolved := Array.replicate 48 none
  statics := none }

def pool3 : Array CpInfo := pool [(1, .class_ 2), (0, u "java/io/Serializable"), (0, .class_ 4), (0, u "java/lang/Object")] 2

/-- java/io/Serializable -/
def k3 : Class := { plain "java/io/Serializable" (some 0) with
  accessFlags := 1537
  interfaces := #[]
  cf := some (fileOf pool3 1 #[] #[] 1537 3 #[] #[])
  fields := #[]
  methods := #[]
  instanceTypes := #[]
  staticTypes := #[]
  resolved := Array.replicate 7 none
  statics := none }

def pool4 : Array CpInfo := pool [(2, .class_ 4), (1, u "java/lang/Object"), (0, u "<init>"), (0, u "()V"), (1, .class_ 10), (1, u "java/lang/Number"), (2, .class_ 14), (0, u "java/io/Serializable"), (0, u "serialVersionUID"), (0, u "J")] 20

def k4m0 : Method := { name := "<init>", desc := "()V", sig := { parameters := [], returnType := none }, accessFlags := 1, code := none }
/-- java/lang/Number -/
def k4 : Class := { plain "java/lang/Number" (some 0) with
  accessFlags := 1057
  interfaces := #[3]
  cf := some (fileOf pool4 8 #[] #[{ accessFlags := 1, nameIndex := 5, descriptorIndex := 6, attributes := #[] }] 1057 2 #[13] #[{ accessFlags := 26, nameIndex := 15, descriptorIndex := 16, attributes := #[] }])
  fields := #[{ name := "serialVersionUID", type := .long, accessFlags := 26, slot := 0, constantValue := 0 }]
  methods := #[k4m0]
  instanceTypes := #[]
  staticTypes := #[.long]
  resolved := Array.replicate 37 none
  statics := none }

def pool5 : Array CpInfo := pool [(1, .class_ 2), (0, u "java/lang/Comparable"), (0, .class_ 4), (0, u "java/lang/Object")] 7

/-- java/lang/Comparable -/
def k5 : Class := { plain "java/lang/Comparable" (some 0) with
  accessFlags := 1537
  interfaces := #[]
  cf := some (fileOf pool5 1 #[] #[] 1537 3 #[] #[])
  fields := #[]
  methods := #[]
  instanceTypes := #[]
  staticTypes := #[]
  resolved := Array.replicate 12 none
  statics := none }

def pool6 : Array CpInfo := pool [(1, .class_ 2), (0, u "java/lang/constant/Constable"), (0, .class_ 4), (0, u "java/lang/Object")] 6

/-- java/lang/constant/Constable -/
def k6 : Class := { plain "java/lang/constant/Constable" (some 0) with
  accessFlags := 1537
  interfaces := #[]
  cf := some (fileOf pool6 1 #[] #[] 1537 3 #[] #[])
  fields := #[]
  methods := #[]
  instanceTypes := #[]
  staticTypes := #[]
  resolved := Array.replicate 11 none
  statics := none }

def pool7 : Array CpInfo := pool [(1, .class_ 2), (0, u "java/lang/constant/ConstantDesc"), (0, .class_ 4), (0, u "java/lang/Object")] 32

/-- java/lang/constant/ConstantDesc -/
def k7 : Class := { plain "java/lang/constant/ConstantDesc" (some 0) with
  accessFlags := 1537
  interfaces := #[]
  cf := some (fileOf pool7 1 #[] #[] 1537 3 #[] #[])
  fields := #[]
  methods := #[]
  instanceTypes := #[]
  staticTypes := #[]
  resolved := Array.replicate 37 none
  statics := none }

def pool8 : Array CpInfo := pool [(1, .class_ 2), (0, u "java/lang/Long"), (15, .class_ 20), (1, u "java/lang/Integer"), (79, u "numberOfLeadingZeros"), (0, u "(J)I"), (133, .class_ 237), (1, u "java/lang/Long$LongCache"), (33, .class_ 272), (0, u "java/lang/Number"), (2, u "value"), (0, u "J"), (31, .methodref 18 309), (0, .nameAndType 100 310), (0, u "(I)I"), (50, u "TYPE"), (0, u "Ljava/lang/Class;"), (0, .class_ 364), (0, u "java/lang/Comparable"), (0, .class_ 366), (0, u "java/lang/constant/Constable"), (0, .class_ 368), (0, u "java/lang/constant/ConstantDesc"), (0, u "MIN_VALUE"), (1, u "MAX_VALUE"), (4, u "SIZE"), (0, u "I"), (1, u "BYTES"), (1, u "serialVersionUID")] 142

def k8c0 : Code := { maxStack := 3, maxLocals := 3, code := jdk_35_method_48_code, exceptionTable := #[], attributes := #[] }
def k8m0 : Method := { name := "numberOfLeadingZeros", desc := "(J)I", sig := { parameters := [.long], returnType := some .int }, accessFlags := 9, code := some k8c0 }
/-- java/lang/Long -/
def k8 : Class := { plain "java/lang/Long" (some 4) with
  accessFlags := 49
  interfaces := #[5, 6, 7]
  cf := some (fileOf pool8 1 #[.nestMembers #[235]] #[{ accessFlags := 9, nameIndex := 100, descriptorIndex := 101, attributes := #[] }] 49 271 #[363, 365, 367] #[{ accessFlags := 25, nameIndex := 369, descriptorIndex := 276, attributes := #[] }, { accessFlags := 25, nameIndex := 371, descriptorIndex := 276, attributes := #[] }, { accessFlags := 25, nameIndex := 361, descriptorIndex := 362, attributes := #[] }, { accessFlags := 18, nameIndex := 275, descriptorIndex := 276, attributes := #[] }, { accessFlags := 25, nameIndex := 376, descriptorIndex := 377, attributes := #[] }, { accessFlags := 25, nameIndex := 379, descriptorIndex := 377, attributes := #[] }, { accessFlags := 26, nameIndex := 381, descriptorIndex := 276, attributes := #[] }])
  fields := #[{ name := "MIN_VALUE", type := .long, accessFlags := 25, slot := 0, constantValue := 0 }, { name := "MAX_VALUE", type := .long, accessFlags := 25, slot := 1, constantValue := 0 }, { name := "TYPE", type := (.object "java/lang/Class"), accessFlags := 25, slot := 2, constantValue := 0 }, { name := "value", type := .long, accessFlags := 18, slot := 0, constantValue := 0 }, { name := "SIZE", type := .int, accessFlags := 25, slot := 3, constantValue := 0 }, { name := "BYTES", type := .int, accessFlags := 25, slot := 4, constantValue := 0 }, { name := "serialVersionUID", type := .long, accessFlags := 26, slot := 5, constantValue := 0 }]
  methods := #[k8m0]
  instanceTypes := #[.long]
  staticTypes := #[.long, .long, (.object "java/lang/Class"), .int, .int, .long]
  resolved := Array.replicate 524 none
  statics := none }

def pool9 : Array CpInfo := pool [(1, .class_ 2), (0, u "java/lang/Integer"), (16, u "digits"), (0, u "[C"), (32, u "numberOfLeadingZeros"), (0, u "(I)I"), (30, u "DigitOnes"), (0, u "[B"), (2, u "DigitTens"), (99, .class_ 190), (0, u "java/lang/Integer$IntegerCache"), (3, u "I"), (8, .class_ 204), (0, u "java/lang/Number"), (2, u "value"), (56, .integer 65536), (37, u "TYPE"), (0, u "Ljava/lang/Class;"), (0, .class_ 305), (0, u "java/lang/Comparable"), (0, .class_ 307), (0, u "java/lang/constant/Constable"), (0, .class_ 309), (0, u "java/lang/constant/ConstantDesc"), (0, u "MIN_VALUE"), (1, u "MAX_VALUE"), (3, u "SIZE"), (1, u "BYTES"), (1, u "serialVersionUID"), (0, u "J")] 131

def k9c0 : Code := { maxStack := 3, maxLocals := 2, code := jdk_33_method_47_code, exceptionTable := #[], attributes := #[] }
def k9m0 : Method := { name := "numberOfLeadingZeros", desc := "(I)I", sig := { parameters := [.int], returnType := some .int }, accessFlags := 9, code := some k9c0 }
/-- java/lang/Integer -/
def k9 : Class := { plain "java/lang/Integer" (some 4) with
  accessFlags := 49
  interfaces := #[5, 6, 7]
  cf := some (fileOf pool9 1 #[.nestMembers #[189]] #[{ accessFlags := 9, nameIndex := 53, descriptorIndex := 54, attributes := #[] }] 49 203 #[304, 306, 308] #[{ accessFlags := 25, nameIndex := 310, descriptorIndex := 194, attributes := #[] }, { accessFlags := 25, nameIndex := 312, descriptorIndex := 194, attributes := #[] }, { accessFlags := 25, nameIndex := 302, descriptorIndex := 303, attributes := #[] }, { accessFlags := 24, nameIndex := 19, descriptorIndex := 20, attributes := #[] }, { accessFlags := 24, nameIndex := 89, descriptorIndex := 86, attributes := #[] }, { accessFlags := 24, nameIndex := 85, descriptorIndex := 86, attributes := #[] }, { accessFlags := 18, nameIndex := 207, descriptorIndex := 194, attributes := #[] }, { accessFlags := 25, nameIndex := 316, descriptorIndex := 194, attributes := #[] }, { accessFlags := 25, nameIndex := 318, descriptorIndex := 194, attributes := #[] }, { accessFlags := 26, nameIndex := 320, descriptorIndex := 321, attributes := #[] }])
  fields := #[{ name := "MIN_VALUE", type := .int, accessFlags := 25, slot := 0, constantValue := 0 }, { name := "MAX_VALUE", type := .int, accessFlags := 25, slot := 1, constantValue := 0 }, { name := "TYPE", type := (.object "java/lang/Class"), accessFlags := 25, slot := 2, constantValue := 0 }, { name := "digits", type := (.array .char), accessFlags := 24, slot := 3, constantValue := 0 }, { name := "DigitTens", type := (.array .byte), accessFlags := 24, slot := 4, constantValue := 0 }, { name := "DigitOnes", type := (.array .byte), accessFlags := 24, slot := 5, constantValue := 0 }, { name := "value", type := .int, accessFlags := 18, slot := 0, constantValue := 0 }, { name := "SIZE", type := .int, accessFlags := 25, slot := 6, constantValue := 0 }, { name := "BYTES", type := .int, accessFlags := 25, slot := 7, constantValue := 0 }, { name := "serialVersionUID", type := .long, accessFlags := 26, slot := 8, constantValue := 0 }]
  methods := #[k9m0]
  instanceTypes := #[.int]
  staticTypes := #[.int, .int, (.object "java/lang/Class"), (.array .char), (.array .byte), (.array .byte), .int, .int, .long]
  resolved := Array.replicate 453 none
  statics := none }

def pool10 : Array CpInfo := pool [(1, u "java/lang/Cloneable"), (0, .class_ 1), (0, u "java/lang/Object"), (0, .class_ 3)] 3

/-- java/lang/Cloneable -/
def k10 : Class := { plain "java/lang/Cloneable" (some 0) with
  accessFlags := 1537
  interfaces := #[]
  cf := some (fileOf pool10 2 #[] #[] 1537 4 #[] #[])
  fields := #[]
  methods := #[]
  instanceTypes := #[]
  staticTypes := #[]
  resolved := Array.replicate 8 none
  statics := none }

/-- the primitive byte -/
def k11 : Class := { plain "byte" none with kind := .primitive 'B', accessFlags := 0x411 }
/-- [B -/
def k12 : Class := { plain "[B" (some 0) with kind := .array 11 .byte, interfaces := #[10, 3], accessFlags := 1041 }

/-- the primitive int -/
def k13 : Class := { plain "int" none with kind := .primitive 'I', accessFlags := 0x411 }
/-- [I -/
def k14 : Class := { plain "[I" (some 0) with kind := .array 13 .int, interfaces := #[10, 3], accessFlags := 1041 }

/-- the primitive long -/
def k15 : Class := { plain "long" none with kind := .primitive 'J', accessFlags := 0x411 }
/-- [J -/
def k16 : Class := { plain "[J" (some 0) with kind := .array 15 .long, interfaces := #[10, 3], accessFlags := 1041 }

def heap : Heap := #[]
def classes : Array Class := #[k0, k1, k2, k3, k4, k5, k6, k7, k8, k9, k10, k11, k12, k13, k14, k15, k16]
def interned : List (Array UInt16 × Addr) := []
def slotsUsed : Nat := 0
def theMethod : MethodId := ⟨1, 1⟩
def args0 : Array Value := #[.long 5, .long 6, .long 7, .long 8, .int 3]
def aboutOver (below : List Frame) : State where
  vm := { classes := classes, interned := interned.toArray }
  heap := heap
  slotsUsed := slotsUsed
  threads := #[{ frames := .invoking theMethod args0 :: below }]
def below0 : List Frame := [.native { method := ⟨0, 0⟩, args := #[] }]
def about1 : State := aboutOver below0
def p0 : Program := .bare "" "" ""
def e0 : Env := launch0.env 0 0 0
theorem w_frames : about1.frames = Frame.invoking theMethod args0 :: below0 := rfl
set_option maxRecDepth 65536 in
theorem w_args : argsFit about1.vm theMethod args0 = true := by decide +kernel
set_option maxRecDepth 65536 in
theorem w_heap : heapFits about1 = true := by decide +kernel
set_option maxRecDepth 65536 in
theorem w_runnable : about1.curStatus? = some .runnable := by decide +kernel
set_option maxRecDepth 65536 in
theorem w_alone : about1.alone = true := by decide +kernel
set_option maxRecDepth 65536 in
theorem w_named : about1.methodNamed? x = some theMethod := by decide +kernel
set_option maxRecDepth 65536 in
theorem w_hears : about1.hears theMethod below0 = true := by decide +kernel
set_option maxRecDepth 65536 in
theorem w_ripe : about1.ripe theMethod args0 below0 = true := by decide +kernel
theorem w_running : about1.status = .running := rfl
set_option maxRecDepth 65536 in
theorem w_room : about1.hasRoom e0.platform room_1 = true :=
  launch0.hasRoom_least _ room_1 (by decide +kernel) (by decide +kernel) (by decide +kernel) (by decide +kernel) (by decide +kernel) (by decide +kernel)
theorem allAtoms_all (ts : List Jvm.Cond) (a : Array Jvm.Value) (st : Jvm.State) : (allAtoms ts).before a st = ts.all (fun c => c.before a st) := by
  induction ts with
  | nil => rfl
  | cons c t ih =>
    show (Jvm.Cond.and c (allAtoms t)).before a st = _
    rw [Jvm.Cond.before_and, ih, List.all_cons]
def words1 : List Jvm.Cond := Jvm.Cond.code x code maxLocals ret :: tables_1
/-- a 'code' word, met by the world's own term for the bytes: nothing is compared byte by byte -/
theorem code_word {y : MethodName} {bytes : ByteArray} {mx : Nat} {rt : Option FieldType} {a : Array Value} {s : State} {m : MethodId} {meth : Method} {c : Code} (h1 : s.methodNamed? y = some m) (h2 : s.vm.method? m = some meth) (h3 : meth.code = some c) (h4 : c.code = bytes)
    (h5 : (c.maxLocals == mx && c.exceptionTable.isEmpty && decide (c.maxStack ≤ mostOperands) && decide (meth.sig.returnType = rt) && !meth.locks && decide (parseMethodDescriptor y.desc = some meth.sig)) = true) : (Jvm.Cond.code y bytes mx rt).before a s = true := by
  simp only [Bool.and_eq_true, beq_iff_eq, Bool.not_eq_true', decide_eq_true_eq] at h5
  obtain ⟨⟨⟨⟨⟨g1, g2⟩, g3⟩, g4⟩, g5⟩, g6⟩ := h5
  simp [Cond.before, Cond.holds, Cond.value, h1, h2, h3, h4, g1, g2, g3, g4, g5, g6]
def isCode : Jvm.Cond → Bool
  | .code _ _ _ _ => true
  | _ => false
theorem all_split {L : List Jvm.Cond} {P : Jvm.Cond → Bool} (h1 : L.all (fun c => isCode c || P c) = true) (h2 : ∀ c ∈ L.filter isCode, P c = true) : L.all P = true := by
  refine List.all_eq_true.mpr fun c hc => ?_
  have h := List.all_eq_true.mp h1 c hc
  rcases Bool.eq_false_or_eq_true (isCode c) with hi | hi
  · exact h2 c (List.mem_filter.mpr ⟨hc, hi⟩)
  · simpa [hi] using h
set_option maxRecDepth 65536 in
theorem w_c0 : (Jvm.Cond.code x code maxLocals ret).before args0 about1 = true := code_word (m := ⟨1, 1⟩) (meth := k1m1) (c := k1c1) (by decide +kernel) rfl rfl rfl (by decide +kernel)
set_option maxRecDepth 65536 in
theorem w_c1 : (Jvm.Cond.code ({ cls := "com/example/curves_to_bounds/curvestobounds/Words", name := "bitLength", desc := "([JI)I" } : Jvm.MethodName) prog_54_method_5_code (2 : Nat) (Option.some Jvm.ClassFile.FieldType.int)).before args0 about1 = true := code_word (m := ⟨2, 1⟩) (meth := k2m1) (c := k2c1) (by decide +kernel) rfl rfl rfl (by decide +kernel)
set_option maxRecDepth 65536 in
theorem w_c2 : (Jvm.Cond.code ({ cls := "java/lang/Long", name := "numberOfLeadingZeros", desc := "(J)I" } : Jvm.MethodName) jdk_35_method_48_code (3 : Nat) (Option.some Jvm.ClassFile.FieldType.int)).before args0 about1 = true := code_word (m := ⟨8, 0⟩) (meth := k8m0) (c := k8c0) (by decide +kernel) rfl rfl rfl (by decide +kernel)
set_option maxRecDepth 65536 in
theorem w_c3 : (Jvm.Cond.code ({ cls := "java/lang/Integer", name := "numberOfLeadingZeros", desc := "(I)I" } : Jvm.MethodName) jdk_33_method_47_code (2 : Nat) (Option.some Jvm.ClassFile.FieldType.int)).before args0 about1 = true := code_word (m := ⟨9, 0⟩) (meth := k9m0) (c := k9c0) (by decide +kernel) rfl rfl rfl (by decide +kernel)
def codes1 : List Jvm.Cond := [Jvm.Cond.code x code maxLocals ret, Jvm.Cond.code ({ cls := "com/example/curves_to_bounds/curvestobounds/Words", name := "bitLength", desc := "([JI)I" } : Jvm.MethodName) prog_54_method_5_code (2 : Nat) (Option.some Jvm.ClassFile.FieldType.int), Jvm.Cond.code ({ cls := "java/lang/Long", name := "numberOfLeadingZeros", desc := "(J)I" } : Jvm.MethodName) jdk_35_method_48_code (3 : Nat) (Option.some Jvm.ClassFile.FieldType.int), Jvm.Cond.code ({ cls := "java/lang/Integer", name := "numberOfLeadingZeros", desc := "(I)I" } : Jvm.MethodName) jdk_33_method_47_code (2 : Nat) (Option.some Jvm.ClassFile.FieldType.int)]
set_option maxRecDepth 65536 in
theorem codes_eq : words1.filter isCode = codes1 := rfl
theorem w_codes : ∀ c ∈ words1.filter isCode, c.before args0 about1 = true := by
  rw [codes_eq]
  intro c hc
  simp only [codes1, List.mem_cons, List.not_mem_nil, or_false] at hc
  rcases hc with rfl | rfl | rfl | rfl
  · exact w_c0
  · exact w_c1
  · exact w_c2
  · exact w_c3
set_option maxRecDepth 65536 in
theorem w_t1 : words1.all (fun c => isCode c || c.before args0 about1) = true := by decide +kernel
theorem w_tables : (allAtoms (Jvm.Cond.code x code maxLocals ret :: tables_1)).before args0 about1 = true := by
  rw [allAtoms_all]
  show words1.all (fun c => c.before args0 about1) = true
  refine all_split ?_ w_codes
  rw [w_t1]
set_option maxRecDepth 65536 in
theorem w_case : (Jvm.Cond.and given_1 narrow_1).before args0 about1 = true := by decide +kernel
theorem w_applies : (headSpec (Jvm.Cond.code x code maxLocals ret :: tables_1) room_1).applies x e0.platform about1 = true :=
  (Spec.applies_iff w_frames).mpr ⟨w_running, w_runnable, w_alone, w_named, w_hears, w_ripe, w_room, w_tables⟩
theorem atStart : AtStart classFile x code maxLocals ret World_1 tables_1 room_1 Calls_1 rest_1 Pre_1 launch0 p0 e0 about1 theMethod args0 below0 :=
  ⟨lists_1, trivial, launch0.admits_env _ _ _, launch0.least_env, fairChoices_fair.cas, fairChoices_fair.clock, w_frames, w_args, w_heap, w_applies, trivial, trivial, w_case⟩
end start1
theorem witness_1 : WitnessClaimed_1 := ⟨start1.p0, start1.e0, start1.about1, start1.theMethod, start1.args0, start1.below0, start1.atStart⟩
end Jvm.Pilot.@@N@@
