import JvmDerived
import JvmDerived.Pilot.@@N@@Statement
import JvmDerived.Pilot.@@N@@Code
set_option linter.unusedVariables false
set_option linter.unusedSimpArgs false
@@BLOCK:NumsL.lean.txt@@
namespace Jvm.Pilot.@@N@@
open Jvm Jvm.ClassFile Sem Op Lib Jvm.Free Jvm.Stand Jvm.LawKit Jvm.RoadKit Bundle Jvm.Pilot.@@N@@.Jvm.D
section OwnKit
variable {p : Program} {l : Launch} {e : Env} {R : Room} {s : State} {m : MethodId} {args : Array Value} {below : List Frame} {meth : Method} {c : Code} {T T' : State} {locs : List Loc} {cells slots : Nat} {Z : State} {a0 : Array Value} {h h' : Heap} {cm sm : Nat} {Q : Option Value → Heap → List Loc → Prop} {pc pc' : Nat} {Ls Ls' : Array Slot} {St : List Value}
/-- the walk's goal: from this frame the method comes to its end, and Q holds of what it leaves -/
def Go (p : Program) (e : Env) (below : List Frame) (s : State) (cm sm : Nat) (Q : Option Value → Heap → List Loc → Prop) (T : State) (g : JFrame) : Prop :=
  ∃ s₂ o, Steps p.tables e below (T.setTop g) s₂ ∧ s₂.status = .running ∧ Ended s₂ below o ∧ ∃ v L, o = .returned v ∧ Q v s₂.heap L ∧ FrameEnd s o s₂ L cm sm
theorem Go.st {g g' : JFrame} (q : ∀ t, Steps p.tables e below (T'.setTop g') t → Steps p.tables e below (T.setTop g) t) (k : Go p e below s cm sm Q T' g') : Go p e below s cm sm Q T g := by
  obtain ⟨s₂, o, st, r⟩ := k
  exact ⟨s₂, o, q _ st, r⟩
theorem Go.weak {g : JFrame} {Q' : Option Value → Heap → List Loc → Prop} (k : Go p e below s cm sm Q T g) (q : ∀ v h L, Q v h L → Q' v h L) : Go p e below s cm sm Q' T g := by
  obtain ⟨s₂, o, st, r1, r2, v, L, r3, r4, r5⟩ := k
  exact ⟨s₂, o, st, r1, r2, v, L, r3, q _ _ _ r4, r5⟩
/-- a contract -/
def Con (l : Launch) (Z : State) (y : MethodName) (bytes : ByteArray) (maxL : Nat) (ret : Option FieldType) (rm : Room) (as' : Array Value) (h : Heap) (Q : Option Value → Heap → List Loc → Prop) : Prop :=
  ∀ ws : List Jvm.Cond, MetFree l y (head1 (Jvm.Cond.code y bytes maxL ret :: ws) rm) (fun a U => a = as' ∧ Z.Warmed39 U.vm ∧ U.heap = h) (fun _ _ _ _ _ => True) (fun _ U o U' => ∃ v L, o = .returned v ∧ Q v U'.heap L ∧ FrameEnd U o U' L rm.cells rm.slots)
theorem Con.of {y : MethodName} {bytes : ByteArray} {maxL : Nat} {ret : Option FieldType} {rm : Room} {as' : Array Value} (hpl : plainFor y = true)
    (body : ∀ (p : Program) (e : Env) (s : State) (m : MethodId) (below : List Frame) (meth : Method) (c : Code) (T : State), Stand p l e rm s m as' below meth c T [] 0 0 → p.tables.exec = Jvm.exec → Z.Warmed39 s.vm → c.code = bytes → c.maxLocals = maxL → s.vm.findClass y.cls = some m.cls → meth.name = y.name → meth.sig.returnType = ret → meth.locks = false → T.heap = h → Go p e below s rm.cells rm.slots Q T (entryFrame m as' maxL)) :
    Con l Z y bytes maxL ret rm as' h Q := by
  intro ws
  refine MetFree.of_bodySF hpl hisR ?_
  intro p e s m args below meth c s₁ Bd hml0 hP hK
  obtain ⟨rfl, hZ, hh⟩ := hP
  exact body p e s m below meth c s₁ (Stand.of_body Bd) Bd.exec hZ Bd.bytes hml0 (findClass_of_methodNamed Bd.named) (name_of_methodNamed Bd.named Bd.method).1 Bd.returns Bd.notSynchronized (by rw [← hh, Bd.state]; rfl)
theorem Con.weak {y : MethodName} {bytes : ByteArray} {maxL : Nat} {ret : Option FieldType} {rm : Room} {as' : Array Value} {Q' : Option Value → Heap → List Loc → Prop} (C : Con l Z y bytes maxL ret rm as' h Q) (q : ∀ v h L, Q v h L → Q' v h L) : Con l Z y bytes maxL ret rm as' h Q' := by
  intro ws p e ha hc hk s m args below hf happ hP hK
  obtain ⟨n, o, h1, h2, h3, v, L, r3, r4, r5⟩ := C ws p e ha hc hk s m args below hf happ hP hK
  exact ⟨n, o, h1, h2, h3, v, L, r3, q _ _ _ r4, r5⟩
/-- what a body that writes nothing leaves -/
abbrev QP (v0 : Option Value) (h0 : Heap) (n0 : Nat) : Option Value → Heap → List Loc → Prop := fun v h L => v = v0 ∧ Fr n0 L ∧ h = h0
/-- what a law leaves -/
abbrev QL (v0 : Option Value) (n0 : Nat) : Option Value → Heap → List Loc → Prop := fun v _ L => v = v0 ∧ Fr n0 L
/-- iushr, lushr -/
def jushr (x y : Int32) : Int32 := (x.toUInt32 >>> (y &&& 31).toUInt32).toInt32
def jlushr (x : Int64) (y : Int32) : Int64 := (x.toUInt64 >>> (y &&& 0x3f).toInt64.toUInt64).toInt64
theorem w_iloadN (X : Stand p l e R s m args below meth c T locs cells slots) (hx : p.tables.exec = Jvm.exec) {k : Fin 4} {v : Int32} (hd : decode c.code pc = .ok (.iload_n k, 1)) (hp : pc + 1 = pc') (hl : Ls[k.val]? = some (.val (.int v)))
    (kk : Go p e below s cm sm Q T (mkF m pc' Ls (.int v :: St))) : Go p e below s cm sm Q T (mkF m pc Ls (St)) := by
  subst hp
  exact Go.st (fun t q => XS.iloadN (g := mkF m pc Ls (St)) X.here hx rfl hd hl q) kk
theorem w_iload (X : Stand p l e R s m args below meth c T locs cells slots) (hx : p.tables.exec = Jvm.exec) {k : Nat} {v : Int32} (hd : decode c.code pc = .ok (.iload k, 2)) (hp : pc + 2 = pc') (hl : Ls[k]? = some (.val (.int v)))
    (kk : Go p e below s cm sm Q T (mkF m pc' Ls (.int v :: St))) : Go p e below s cm sm Q T (mkF m pc Ls (St)) := by
  subst hp
  exact Go.st (fun t q => XS.iload (g := mkF m pc Ls (St)) X.here hx rfl hd hl q) kk
theorem w_istoreN (X : Stand p l e R s m args below meth c T locs cells slots) (hx : p.tables.exec = Jvm.exec) {k : Fin 4} {x : Int32} (hd : decode c.code pc = .ok (.istore_n k, 1)) (hp : pc + 1 = pc') (hl : storeLocals Ls k.val (.int x) = some Ls')
    (kk : Go p e below s cm sm Q T (mkF m pc' Ls' (St))) : Go p e below s cm sm Q T (mkF m pc Ls (.int x :: St)) := by
  subst hp
  exact Go.st (fun t q => XS.istoreN (g := mkF m pc Ls (.int x :: St)) X.here hx rfl hd rfl hl q) kk
theorem w_istore (X : Stand p l e R s m args below meth c T locs cells slots) (hx : p.tables.exec = Jvm.exec) {k : Nat} {x : Int32} (hd : decode c.code pc = .ok (.istore k, 2)) (hp : pc + 2 = pc') (hl : storeLocals Ls k (.int x) = some Ls')
    (kk : Go p e below s cm sm Q T (mkF m pc' Ls' (St))) : Go p e below s cm sm Q T (mkF m pc Ls (.int x :: St)) := by
  subst hp
  exact Go.st (fun t q => XS.istore (g := mkF m pc Ls (.int x :: St)) X.here hx rfl hd rfl hl q) kk
theorem w_lloadN (X : Stand p l e R s m args below meth c T locs cells slots) (hx : p.tables.exec = Jvm.exec) {k : Fin 4} {v : Int64} (hd : decode c.code pc = .ok (.lload_n k, 1)) (hp : pc + 1 = pc') (hl : Ls[k.val]? = some (.val (.long v)))
    (kk : Go p e below s cm sm Q T (mkF m pc' Ls (.long v :: St))) : Go p e below s cm sm Q T (mkF m pc Ls (St)) := by
  subst hp
  exact Go.st (fun t q => XS.lloadN (g := mkF m pc Ls (St)) X.here hx rfl hd hl q) kk
theorem w_lload (X : Stand p l e R s m args below meth c T locs cells slots) (hx : p.tables.exec = Jvm.exec) {k : Nat} {v : Int64} (hd : decode c.code pc = .ok (.lload k, 2)) (hp : pc + 2 = pc') (hl : Ls[k]? = some (.val (.long v)))
    (kk : Go p e below s cm sm Q T (mkF m pc' Ls (.long v :: St))) : Go p e below s cm sm Q T (mkF m pc Ls (St)) := by
  subst hp
  exact Go.st (fun t q => XS.lload (g := mkF m pc Ls (St)) X.here hx rfl hd hl q) kk
theorem w_lstoreN (X : Stand p l e R s m args below meth c T locs cells slots) (hx : p.tables.exec = Jvm.exec) {k : Fin 4} {x : Int64} (hd : decode c.code pc = .ok (.lstore_n k, 1)) (hp : pc + 1 = pc') (hl : storeLocals Ls k.val (.long x) = some Ls')
    (kk : Go p e below s cm sm Q T (mkF m pc' Ls' (St))) : Go p e below s cm sm Q T (mkF m pc Ls (.long x :: St)) := by
  subst hp
  exact Go.st (fun t q => XS.lstoreN (g := mkF m pc Ls (.long x :: St)) X.here hx rfl hd rfl hl q) kk
theorem w_lstore (X : Stand p l e R s m args below meth c T locs cells slots) (hx : p.tables.exec = Jvm.exec) {k : Nat} {x : Int64} (hd : decode c.code pc = .ok (.lstore k, 2)) (hp : pc + 2 = pc') (hl : storeLocals Ls k (.long x) = some Ls')
    (kk : Go p e below s cm sm Q T (mkF m pc' Ls' (St))) : Go p e below s cm sm Q T (mkF m pc Ls (.long x :: St)) := by
  subst hp
  exact Go.st (fun t q => XS.lstore (g := mkF m pc Ls (.long x :: St)) X.here hx rfl hd rfl hl q) kk
theorem w_aloadN (X : Stand p l e R s m args below meth c T locs cells slots) (hx : p.tables.exec = Jvm.exec) {k : Fin 4} {v : Value} (hd : decode c.code pc = .ok (.aload_n k, 1)) (hp : pc + 1 = pc') (hl : Ls[k.val]? = some (.val v)) (hv : v.isRef = true)
    (kk : Go p e below s cm sm Q T (mkF m pc' Ls (v :: St))) : Go p e below s cm sm Q T (mkF m pc Ls (St)) := by
  subst hp
  exact Go.st (fun t q => XS.aloadN (g := mkF m pc Ls (St)) X.here hx rfl hd hl hv q) kk
theorem w_aload (X : Stand p l e R s m args below meth c T locs cells slots) (hx : p.tables.exec = Jvm.exec) {k : Nat} {v : Value} (hd : decode c.code pc = .ok (.aload k, 2)) (hp : pc + 2 = pc') (hl : Ls[k]? = some (.val v)) (hv : v.isRef = true)
    (kk : Go p e below s cm sm Q T (mkF m pc' Ls (v :: St))) : Go p e below s cm sm Q T (mkF m pc Ls (St)) := by
  subst hp
  exact Go.st (fun t q => XS.aload (g := mkF m pc Ls (St)) X.here hx rfl hd hl hv q) kk
theorem w_astoreN (X : Stand p l e R s m args below meth c T locs cells slots) (hx : p.tables.exec = Jvm.exec) {k : Fin 4} {x : Value} (hd : decode c.code pc = .ok (.astore_n k, 1)) (hp : pc + 1 = pc') (hv : x.isRef = true) (hl : storeLocals Ls k.val x = some Ls')
    (kk : Go p e below s cm sm Q T (mkF m pc' Ls' (St))) : Go p e below s cm sm Q T (mkF m pc Ls (x :: St)) := by
  subst hp
  exact Go.st (fun t q => XS.astoreN (g := mkF m pc Ls (x :: St)) X.here hx rfl hd rfl hv hl q) kk
theorem w_astore (X : Stand p l e R s m args below meth c T locs cells slots) (hx : p.tables.exec = Jvm.exec) {k : Nat} {x : Value} (hd : decode c.code pc = .ok (.astore k, 2)) (hp : pc + 2 = pc') (hv : x.isRef = true) (hl : storeLocals Ls k x = some Ls')
    (kk : Go p e below s cm sm Q T (mkF m pc' Ls' (St))) : Go p e below s cm sm Q T (mkF m pc Ls (x :: St)) := by
  subst hp
  exact Go.st (fun t q => XS.astore (g := mkF m pc Ls (x :: St)) X.here hx rfl hd rfl hv hl q) kk
theorem w_iconst (X : Stand p l e R s m args below meth c T locs cells slots) (hx : p.tables.exec = Jvm.exec) {i : Int} {v : Int32} (hd : decode c.code pc = .ok (.iconst i, 1)) (hp : pc + 1 = pc') (hv : Int32.ofInt i = v)
    (kk : Go p e below s cm sm Q T (mkF m pc' Ls (.int v :: St))) : Go p e below s cm sm Q T (mkF m pc Ls St) := by
  subst hp hv
  exact Go.st (fun t q => XS.iconst (g := mkF m pc Ls St) X.here hx rfl hd q) kk
theorem w_bipush (X : Stand p l e R s m args below meth c T locs cells slots) (hx : p.tables.exec = Jvm.exec) {i : Int} {v : Int32} (hd : decode c.code pc = .ok (.bipush i, 2)) (hp : pc + 2 = pc') (hv : (Int8.ofInt i).toInt32 = v)
    (kk : Go p e below s cm sm Q T (mkF m pc' Ls (.int v :: St))) : Go p e below s cm sm Q T (mkF m pc Ls St) := by
  subst hp hv
  exact Go.st (fun t q => XS.bipush (g := mkF m pc Ls St) X.here hx rfl hd q) kk
theorem w_sipush (X : Stand p l e R s m args below meth c T locs cells slots) (hx : p.tables.exec = Jvm.exec) {i : Int} {v : Int32} (hd : decode c.code pc = .ok (.sipush i, 3)) (hp : pc + 3 = pc') (hv : (Int16.ofInt i).toInt32 = v)
    (kk : Go p e below s cm sm Q T (mkF m pc' Ls (.int v :: St))) : Go p e below s cm sm Q T (mkF m pc Ls St) := by
  subst hp hv
  exact Go.st (fun t q => XS.sipush (g := mkF m pc Ls St) X.here hx rfl hd q) kk
theorem w_lconst (X : Stand p l e R s m args below meth c T locs cells slots) (hx : p.tables.exec = Jvm.exec) {i : Fin 2} {v : Int64} (hd : decode c.code pc = .ok (.lconst i, 1)) (hp : pc + 1 = pc') (hv : Int64.ofNat i = v)
    (kk : Go p e below s cm sm Q T (mkF m pc' Ls (.long v :: St))) : Go p e below s cm sm Q T (mkF m pc Ls St) := by
  subst hp hv
  exact Go.st (fun t q => XS.lconst (g := mkF m pc Ls St) X.here hx rfl hd q) kk
theorem w_aconstNull (X : Stand p l e R s m args below meth c T locs cells slots) (hx : p.tables.exec = Jvm.exec)  (hd : decode c.code pc = .ok (.aconst_null, 1)) (hp : pc + 1 = pc')
    (kk : Go p e below s cm sm Q T (mkF m pc' Ls (.null :: St))) : Go p e below s cm sm Q T (mkF m pc Ls (St)) := by
  subst hp
  exact Go.st (fun t q => XS.aconstNull (g := mkF m pc Ls (St)) X.here hx rfl hd q) kk
theorem w_iadd (X : Stand p l e R s m args below meth c T locs cells slots) (hx : p.tables.exec = Jvm.exec) {x y : Int32} (hd : decode c.code pc = .ok (.iadd, 1)) (hp : pc + 1 = pc')
    (kk : Go p e below s cm sm Q T (mkF m pc' Ls (.int (x + y) :: St))) : Go p e below s cm sm Q T (mkF m pc Ls (.int y :: .int x :: St)) := by
  subst hp
  exact Go.st (fun t q => XS.iadd (g := mkF m pc Ls (.int y :: .int x :: St)) X.here hx rfl hd rfl q) kk
theorem w_ladd (X : Stand p l e R s m args below meth c T locs cells slots) (hx : p.tables.exec = Jvm.exec) {x y : Int64} (hd : decode c.code pc = .ok (.ladd, 1)) (hp : pc + 1 = pc')
    (kk : Go p e below s cm sm Q T (mkF m pc' Ls (.long (x + y) :: St))) : Go p e below s cm sm Q T (mkF m pc Ls (.long y :: .long x :: St)) := by
  subst hp
  exact Go.st (fun t q => XS.ladd (g := mkF m pc Ls (.long y :: .long x :: St)) X.here hx rfl hd rfl q) kk
theorem w_isub (X : Stand p l e R s m args below meth c T locs cells slots) (hx : p.tables.exec = Jvm.exec) {x y : Int32} (hd : decode c.code pc = .ok (.isub, 1)) (hp : pc + 1 = pc')
    (kk : Go p e below s cm sm Q T (mkF m pc' Ls (.int (x - y) :: St))) : Go p e below s cm sm Q T (mkF m pc Ls (.int y :: .int x :: St)) := by
  subst hp
  exact Go.st (fun t q => XS.isub (g := mkF m pc Ls (.int y :: .int x :: St)) X.here hx rfl hd rfl q) kk
theorem w_lsub (X : Stand p l e R s m args below meth c T locs cells slots) (hx : p.tables.exec = Jvm.exec) {x y : Int64} (hd : decode c.code pc = .ok (.lsub, 1)) (hp : pc + 1 = pc')
    (kk : Go p e below s cm sm Q T (mkF m pc' Ls (.long (x - y) :: St))) : Go p e below s cm sm Q T (mkF m pc Ls (.long y :: .long x :: St)) := by
  subst hp
  exact Go.st (fun t q => XS.lsub (g := mkF m pc Ls (.long y :: .long x :: St)) X.here hx rfl hd rfl q) kk
theorem w_imul (X : Stand p l e R s m args below meth c T locs cells slots) (hx : p.tables.exec = Jvm.exec) {x y : Int32} (hd : decode c.code pc = .ok (.imul, 1)) (hp : pc + 1 = pc')
    (kk : Go p e below s cm sm Q T (mkF m pc' Ls (.int (x * y) :: St))) : Go p e below s cm sm Q T (mkF m pc Ls (.int y :: .int x :: St)) := by
  subst hp
  exact Go.st (fun t q => XS.imul (g := mkF m pc Ls (.int y :: .int x :: St)) X.here hx rfl hd rfl q) kk
theorem w_lmul (X : Stand p l e R s m args below meth c T locs cells slots) (hx : p.tables.exec = Jvm.exec) {x y : Int64} (hd : decode c.code pc = .ok (.lmul, 1)) (hp : pc + 1 = pc')
    (kk : Go p e below s cm sm Q T (mkF m pc' Ls (.long (x * y) :: St))) : Go p e below s cm sm Q T (mkF m pc Ls (.long y :: .long x :: St)) := by
  subst hp
  exact Go.st (fun t q => XS.lmul (g := mkF m pc Ls (.long y :: .long x :: St)) X.here hx rfl hd rfl q) kk
theorem w_iand (X : Stand p l e R s m args below meth c T locs cells slots) (hx : p.tables.exec = Jvm.exec) {x y : Int32} (hd : decode c.code pc = .ok (.iand, 1)) (hp : pc + 1 = pc')
    (kk : Go p e below s cm sm Q T (mkF m pc' Ls (.int (x &&& y) :: St))) : Go p e below s cm sm Q T (mkF m pc Ls (.int y :: .int x :: St)) := by
  subst hp
  exact Go.st (fun t q => XS.iand (g := mkF m pc Ls (.int y :: .int x :: St)) X.here hx rfl hd rfl q) kk
theorem w_land (X : Stand p l e R s m args below meth c T locs cells slots) (hx : p.tables.exec = Jvm.exec) {x y : Int64} (hd : decode c.code pc = .ok (.land, 1)) (hp : pc + 1 = pc')
    (kk : Go p e below s cm sm Q T (mkF m pc' Ls (.long (x &&& y) :: St))) : Go p e below s cm sm Q T (mkF m pc Ls (.long y :: .long x :: St)) := by
  subst hp
  exact Go.st (fun t q => XS.land (g := mkF m pc Ls (.long y :: .long x :: St)) X.here hx rfl hd rfl q) kk
theorem w_ior (X : Stand p l e R s m args below meth c T locs cells slots) (hx : p.tables.exec = Jvm.exec) {x y : Int32} (hd : decode c.code pc = .ok (.ior, 1)) (hp : pc + 1 = pc')
    (kk : Go p e below s cm sm Q T (mkF m pc' Ls (.int (x ||| y) :: St))) : Go p e below s cm sm Q T (mkF m pc Ls (.int y :: .int x :: St)) := by
  subst hp
  exact Go.st (fun t q => XS.ior (g := mkF m pc Ls (.int y :: .int x :: St)) X.here hx rfl hd rfl q) kk
theorem w_lor (X : Stand p l e R s m args below meth c T locs cells slots) (hx : p.tables.exec = Jvm.exec) {x y : Int64} (hd : decode c.code pc = .ok (.lor, 1)) (hp : pc + 1 = pc')
    (kk : Go p e below s cm sm Q T (mkF m pc' Ls (.long (x ||| y) :: St))) : Go p e below s cm sm Q T (mkF m pc Ls (.long y :: .long x :: St)) := by
  subst hp
  exact Go.st (fun t q => XS.lor (g := mkF m pc Ls (.long y :: .long x :: St)) X.here hx rfl hd rfl q) kk
theorem w_ixor (X : Stand p l e R s m args below meth c T locs cells slots) (hx : p.tables.exec = Jvm.exec) {x y : Int32} (hd : decode c.code pc = .ok (.ixor, 1)) (hp : pc + 1 = pc')
    (kk : Go p e below s cm sm Q T (mkF m pc' Ls (.int (x ^^^ y) :: St))) : Go p e below s cm sm Q T (mkF m pc Ls (.int y :: .int x :: St)) := by
  subst hp
  exact Go.st (fun t q => XS.ixor (g := mkF m pc Ls (.int y :: .int x :: St)) X.here hx rfl hd rfl q) kk
theorem w_lxor (X : Stand p l e R s m args below meth c T locs cells slots) (hx : p.tables.exec = Jvm.exec) {x y : Int64} (hd : decode c.code pc = .ok (.lxor, 1)) (hp : pc + 1 = pc')
    (kk : Go p e below s cm sm Q T (mkF m pc' Ls (.long (x ^^^ y) :: St))) : Go p e below s cm sm Q T (mkF m pc Ls (.long y :: .long x :: St)) := by
  subst hp
  exact Go.st (fun t q => XS.lxor (g := mkF m pc Ls (.long y :: .long x :: St)) X.here hx rfl hd rfl q) kk
theorem w_idiv (X : Stand p l e R s m args below meth c T locs cells slots) (hx : p.tables.exec = Jvm.exec) {x y : Int32} (hd : decode c.code pc = .ok (.idiv, 1)) (hp : pc + 1 = pc') (hy : y ≠ 0)
    (kk : Go p e below s cm sm Q T (mkF m pc' Ls (.int (x / y) :: St))) : Go p e below s cm sm Q T (mkF m pc Ls (.int y :: .int x :: St)) := by
  subst hp
  exact Go.st (fun t q => XS.idiv (g := mkF m pc Ls (.int y :: .int x :: St)) X.here hx rfl hd rfl hy q) kk
theorem own_irem (x y : Int32) : x - x / y * y = x % y := by
  apply Int32.toInt_inj.mp
  have h : x.toInt - x.toInt.tdiv y.toInt * y.toInt = x.toInt.tmod y.toInt := by
    have := Int.mul_tdiv_add_tmod x.toInt y.toInt
    rw [Int.mul_comm]; omega
  have hr := (x % y).toInt_lt
  have hl := (x % y).le_toInt
  rw [Int32.toInt_mod] at hr hl
  rw [Int32.toInt_sub, Int32.toInt_mul, Int32.toInt_div, Int32.toInt_mod, Int.bmod_mul_bmod, Int.sub_bmod_bmod, h, Jvm.Kit.bmod32 (by omega) (by omega)]
theorem w_irem (X : Stand p l e R s m args below meth c T locs cells slots) (hx : p.tables.exec = Jvm.exec) {x y : Int32} (hd : decode c.code pc = .ok (.irem, 1)) (hp : pc + 1 = pc') (hy : y ≠ 0)
    (kk : Go p e below s cm sm Q T (mkF m pc' Ls (.int (x % y) :: St))) : Go p e below s cm sm Q T (mkF m pc Ls (.int y :: .int x :: St)) := by
  subst hp
  rw [← own_irem] at kk
  exact Go.st (fun t q => XS.irem (g := mkF m pc Ls (.int y :: .int x :: St)) X.here hx rfl hd rfl hy q) kk
theorem w_ldiv (X : Stand p l e R s m args below meth c T locs cells slots) (hx : p.tables.exec = Jvm.exec) {x y : Int64} (hd : decode c.code pc = .ok (.ldiv, 1)) (hp : pc + 1 = pc') (hy : y ≠ 0)
    (kk : Go p e below s cm sm Q T (mkF m pc' Ls (.long (x / y) :: St))) : Go p e below s cm sm Q T (mkF m pc Ls (.long y :: .long x :: St)) := by
  subst hp
  exact Go.st (fun t q => XS.ldiv (g := mkF m pc Ls (.long y :: .long x :: St)) X.here hx rfl hd rfl hy q) kk
theorem own_lrem (x y : Int64) : x - x / y * y = x % y := by
  apply Int64.toInt_inj.mp
  have h : x.toInt - x.toInt.tdiv y.toInt * y.toInt = x.toInt.tmod y.toInt := by
    have := Int.mul_tdiv_add_tmod x.toInt y.toInt
    rw [Int.mul_comm]; omega
  have hr := (x % y).toInt_lt
  have hl := (x % y).le_toInt
  rw [Int64.toInt_mod] at hr hl
  rw [Int64.toInt_sub, Int64.toInt_mul, Int64.toInt_div, Int64.toInt_mod, Int.bmod_mul_bmod, Int.sub_bmod_bmod, h, Jvm.Kit.bmod64 (by omega) (by omega)]
theorem w_lrem (X : Stand p l e R s m args below meth c T locs cells slots) (hx : p.tables.exec = Jvm.exec) {x y : Int64} (hd : decode c.code pc = .ok (.lrem, 1)) (hp : pc + 1 = pc') (hy : y ≠ 0)
    (kk : Go p e below s cm sm Q T (mkF m pc' Ls (.long (x % y) :: St))) : Go p e below s cm sm Q T (mkF m pc Ls (.long y :: .long x :: St)) := by
  subst hp
  rw [← own_lrem] at kk
  exact Go.st (fun t q => XS.lrem (g := mkF m pc Ls (.long y :: .long x :: St)) X.here hx rfl hd rfl hy q) kk
theorem w_ineg (X : Stand p l e R s m args below meth c T locs cells slots) (hx : p.tables.exec = Jvm.exec) {x : Int32} (hd : decode c.code pc = .ok (.ineg, 1)) (hp : pc + 1 = pc')
    (kk : Go p e below s cm sm Q T (mkF m pc' Ls (.int (-x) :: St))) : Go p e below s cm sm Q T (mkF m pc Ls (.int x :: St)) := by
  subst hp
  exact Go.st (fun t q => XS.ineg (g := mkF m pc Ls (.int x :: St)) X.here hx rfl hd rfl q) kk
theorem w_lneg (X : Stand p l e R s m args below meth c T locs cells slots) (hx : p.tables.exec = Jvm.exec) {x : Int64} (hd : decode c.code pc = .ok (.lneg, 1)) (hp : pc + 1 = pc')
    (kk : Go p e below s cm sm Q T (mkF m pc' Ls (.long (-x) :: St))) : Go p e below s cm sm Q T (mkF m pc Ls (.long x :: St)) := by
  subst hp
  exact Go.st (fun t q => XS.lneg (g := mkF m pc Ls (.long x :: St)) X.here hx rfl hd rfl q) kk
theorem w_i2l (X : Stand p l e R s m args below meth c T locs cells slots) (hx : p.tables.exec = Jvm.exec) {x : Int32} (hd : decode c.code pc = .ok (.i2l, 1)) (hp : pc + 1 = pc')
    (kk : Go p e below s cm sm Q T (mkF m pc' Ls (.long x.toInt64 :: St))) : Go p e below s cm sm Q T (mkF m pc Ls (.int x :: St)) := by
  subst hp
  exact Go.st (fun t q => XS.i2l (g := mkF m pc Ls (.int x :: St)) X.here hx rfl hd rfl q) kk
theorem w_l2i (X : Stand p l e R s m args below meth c T locs cells slots) (hx : p.tables.exec = Jvm.exec) {x : Int64} (hd : decode c.code pc = .ok (.l2i, 1)) (hp : pc + 1 = pc')
    (kk : Go p e below s cm sm Q T (mkF m pc' Ls (.int x.toInt32 :: St))) : Go p e below s cm sm Q T (mkF m pc Ls (.long x :: St)) := by
  subst hp
  exact Go.st (fun t q => XS.l2i (g := mkF m pc Ls (.long x :: St)) X.here hx rfl hd rfl q) kk
theorem w_i2b (X : Stand p l e R s m args below meth c T locs cells slots) (hx : p.tables.exec = Jvm.exec) {x : Int32} (hd : decode c.code pc = .ok (.i2b, 1)) (hp : pc + 1 = pc')
    (kk : Go p e below s cm sm Q T (mkF m pc' Ls (.int x.toInt8.toInt32 :: St))) : Go p e below s cm sm Q T (mkF m pc Ls (.int x :: St)) := by
  subst hp
  exact Go.st (fun t q => XS.i2b (g := mkF m pc Ls (.int x :: St)) X.here hx rfl hd rfl q) kk
theorem w_i2c (X : Stand p l e R s m args below meth c T locs cells slots) (hx : p.tables.exec = Jvm.exec) {x : Int32} (hd : decode c.code pc = .ok (.i2c, 1)) (hp : pc + 1 = pc')
    (kk : Go p e below s cm sm Q T (mkF m pc' Ls (.int x.toUInt32.toUInt16.toUInt32.toInt32 :: St))) : Go p e below s cm sm Q T (mkF m pc Ls (.int x :: St)) := by
  subst hp
  exact Go.st (fun t q => XS.i2c (g := mkF m pc Ls (.int x :: St)) X.here hx rfl hd rfl q) kk
theorem w_ishl (X : Stand p l e R s m args below meth c T locs cells slots) (hx : p.tables.exec = Jvm.exec) {x y : Int32} (hd : decode c.code pc = .ok (.ishl, 1)) (hp : pc + 1 = pc')
    (kk : Go p e below s cm sm Q T (mkF m pc' Ls (.int (x <<< (y &&& 31)) :: St))) : Go p e below s cm sm Q T (mkF m pc Ls (.int y :: .int x :: St)) := by
  subst hp
  exact Go.st (fun t q => XS.ishl (g := mkF m pc Ls (.int y :: .int x :: St)) X.here hx rfl hd rfl q) kk
theorem w_ishr (X : Stand p l e R s m args below meth c T locs cells slots) (hx : p.tables.exec = Jvm.exec) {x y : Int32} (hd : decode c.code pc = .ok (.ishr, 1)) (hp : pc + 1 = pc')
    (kk : Go p e below s cm sm Q T (mkF m pc' Ls (.int (x >>> (y &&& 31)) :: St))) : Go p e below s cm sm Q T (mkF m pc Ls (.int y :: .int x :: St)) := by
  subst hp
  exact Go.st (fun t q => XS.ishr (g := mkF m pc Ls (.int y :: .int x :: St)) X.here hx rfl hd rfl q) kk
theorem w_iushr (X : Stand p l e R s m args below meth c T locs cells slots) (hx : p.tables.exec = Jvm.exec) {x y : Int32} (hd : decode c.code pc = .ok (.iushr, 1)) (hp : pc + 1 = pc')
    (kk : Go p e below s cm sm Q T (mkF m pc' Ls (.int (jushr x y) :: St))) : Go p e below s cm sm Q T (mkF m pc Ls (.int y :: .int x :: St)) := by
  subst hp
  exact Go.st (fun t q => XS.iushr (g := mkF m pc Ls (.int y :: .int x :: St)) X.here hx rfl hd rfl q) kk
theorem w_lshl (X : Stand p l e R s m args below meth c T locs cells slots) (hx : p.tables.exec = Jvm.exec) {x : Int64} {y : Int32} (hd : decode c.code pc = .ok (.lshl, 1)) (hp : pc + 1 = pc')
    (kk : Go p e below s cm sm Q T (mkF m pc' Ls (.long (x <<< (y &&& 0x3f).toInt64) :: St))) : Go p e below s cm sm Q T (mkF m pc Ls (.int y :: .long x :: St)) := by
  subst hp
  exact Go.st (fun t q => XS.lshl (g := mkF m pc Ls (.int y :: .long x :: St)) X.here hx rfl hd rfl q) kk
theorem w_lshr (X : Stand p l e R s m args below meth c T locs cells slots) (hx : p.tables.exec = Jvm.exec) {x : Int64} {y : Int32} (hd : decode c.code pc = .ok (.lshr, 1)) (hp : pc + 1 = pc')
    (kk : Go p e below s cm sm Q T (mkF m pc' Ls (.long (x >>> (y &&& 0x3f).toInt64) :: St))) : Go p e below s cm sm Q T (mkF m pc Ls (.int y :: .long x :: St)) := by
  subst hp
  exact Go.st (fun t q => XS.lshr (g := mkF m pc Ls (.int y :: .long x :: St)) X.here hx rfl hd rfl q) kk
theorem w_lushr (X : Stand p l e R s m args below meth c T locs cells slots) (hx : p.tables.exec = Jvm.exec) {x : Int64} {y : Int32} (hd : decode c.code pc = .ok (.lushr, 1)) (hp : pc + 1 = pc')
    (kk : Go p e below s cm sm Q T (mkF m pc' Ls (.long (jlushr x y) :: St))) : Go p e below s cm sm Q T (mkF m pc Ls (.int y :: .long x :: St)) := by
  subst hp
  exact Go.st (fun t q => XS.lushr (g := mkF m pc Ls (.int y :: .long x :: St)) X.here hx rfl hd rfl q) kk
theorem w_lcmp (X : Stand p l e R s m args below meth c T locs cells slots) (hx : p.tables.exec = Jvm.exec) {x y : Int64} (hd : decode c.code pc = .ok (.lcmp, 1)) (hp : pc + 1 = pc')
    (kk : Go p e below s cm sm Q T (mkF m pc' Ls (.int (lcmpW x y) :: St))) : Go p e below s cm sm Q T (mkF m pc Ls (.long y :: .long x :: St)) := by
  subst hp
  exact Go.st (fun t q => XS.lcmp (g := mkF m pc Ls (.long y :: .long x :: St)) X.here hx rfl hd rfl q) kk
theorem w_dup (X : Stand p l e R s m args below meth c T locs cells slots) (hx : p.tables.exec = Jvm.exec) {x : Value} (hd : decode c.code pc = .ok (.dup, 1)) (hp : pc + 1 = pc') (hv : x.category = 1)
    (kk : Go p e below s cm sm Q T (mkF m pc' Ls (x :: x :: St))) : Go p e below s cm sm Q T (mkF m pc Ls (x :: St)) := by
  subst hp
  exact Go.st (fun t q => XS.dup (g := mkF m pc Ls (x :: St)) X.here hx rfl hd rfl hv q) kk
theorem w_pop (X : Stand p l e R s m args below meth c T locs cells slots) (hx : p.tables.exec = Jvm.exec) {x : Value} (hd : decode c.code pc = .ok (.pop, 1)) (hp : pc + 1 = pc') (hv : x.category = 1)
    (kk : Go p e below s cm sm Q T (mkF m pc' Ls (St))) : Go p e below s cm sm Q T (mkF m pc Ls (x :: St)) := by
  subst hp
  exact Go.st (fun t q => XS.pop (g := mkF m pc Ls (x :: St)) X.here hx rfl hd rfl hv q) kk
theorem w_dupX1 (X : Stand p l e R s m args below meth c T locs cells slots) (hx : p.tables.exec = Jvm.exec) {x y : Value} (hd : decode c.code pc = .ok (.dup_x1, 1)) (hp : pc + 1 = pc') (hv : x.category = 1) (hv' : y.category = 1)
    (kk : Go p e below s cm sm Q T (mkF m pc' Ls (x :: y :: x :: St))) : Go p e below s cm sm Q T (mkF m pc Ls (x :: y :: St)) := by
  subst hp
  exact Go.st (fun t q => XS.dupX1 (g := mkF m pc Ls (x :: y :: St)) X.here hx rfl hd rfl hv hv' q) kk
theorem w_iinc (X : Stand p l e R s m args below meth c T locs cells slots) (hx : p.tables.exec = Jvm.exec) {k : Nat} {cst : Int} {x w : Int32} (hd : decode c.code pc = .ok (.iinc k cst, 3)) (hp : pc + 3 = pc') (hl : Ls[k]? = some (.val (.int x))) (hv : Int32.ofInt cst = w) (hl' : storeLocals Ls k (.int (x + w)) = some Ls')
    (kk : Go p e below s cm sm Q T (mkF m pc' Ls' St)) : Go p e below s cm sm Q T (mkF m pc Ls St) := by
  subst hp hv
  exact Go.st (fun t q => XS.iinc (g := mkF m pc Ls St) X.here hx rfl hd hl hl' q) kk
theorem w_goto (X : Stand p l e R s m args below meth c T locs cells slots) (hx : p.tables.exec = Jvm.exec) {o : Int} (hd : decode c.code pc = .ok (.goto o, 3)) (ho : 0 ≤ (pc : Int) + o) (hp : ((pc : Int) + o).toNat = pc')
    (kk : Go p e below s cm sm Q T (mkF m pc' Ls St)) : Go p e below s cm sm Q T (mkF m pc Ls St) :=
  Go.st (fun t q => XS.goto (g := mkF m pc Ls St) X.here hx rfl (pc0 := pc) (pc' := pc') rfl hd ho hp q) kk
theorem w_icmp0 (X : Stand p l e R s m args below meth c T locs cells slots) (hx : p.tables.exec = Jvm.exec) {cd : ClassFile.Cond} {x y : Int32} {o : Int} {pt pf : Nat} (hd : decode c.code pc = .ok (.if_icmp cd o, 3)) (hf : pc + 3 = pf) (ho : 0 ≤ (pc : Int) + o) (hp : ((pc : Int) + o).toNat = pt)
    (kT : if_icmp.holds cd x y = true → Go p e below s cm sm Q T (mkF m pt Ls St)) (kF : if_icmp.holds cd x y = false → Go p e below s cm sm Q T (mkF m pf Ls St)) : Go p e below s cm sm Q T (mkF m pc Ls (.int y :: .int x :: St)) := by
  subst hf
  cases hc : if_icmp.holds cd x y with
  | true => exact Go.st (fun t q => XS.icmpYes (g := mkF m pc Ls (.int y :: .int x :: St)) X.here hx rfl (pc0 := pc) (pc' := pt) rfl hd rfl hc ho hp q) (kT hc)
  | false => exact Go.st (fun t q => XS.icmpNo (g := mkF m pc Ls (.int y :: .int x :: St)) X.here hx rfl hd rfl hc q) (kF hc)
theorem w_if0 (X : Stand p l e R s m args below meth c T locs cells slots) (hx : p.tables.exec = Jvm.exec) {cd : ClassFile.Cond} {x : Int32} {o : Int} {pt pf : Nat} (hd : decode c.code pc = .ok (.ifCond cd o, 3)) (hf : pc + 3 = pf) (ho : 0 ≤ (pc : Int) + o) (hp : ((pc : Int) + o).toNat = pt)
    (kT : if_icmp.holds cd x 0 = true → Go p e below s cm sm Q T (mkF m pt Ls St)) (kF : if_icmp.holds cd x 0 = false → Go p e below s cm sm Q T (mkF m pf Ls St)) : Go p e below s cm sm Q T (mkF m pc Ls (.int x :: St)) := by
  subst hf
  cases hc : if_icmp.holds cd x 0 with
  | true => exact Go.st (fun t q => XS.ifYes (g := mkF m pc Ls (.int x :: St)) X.here hx rfl (pc0 := pc) (pc' := pt) rfl hd rfl ((if0 _ _).trans hc) ho hp q) (kT hc)
  | false => exact Go.st (fun t q => XS.ifNo (g := mkF m pc Ls (.int x :: St)) X.here hx rfl hd rfl ((if0 _ _).trans hc) q) (kF hc)
theorem h_lt {x y : Int32} : (if_icmp.holds .lt x y = true → x < y) ∧ (if_icmp.holds .lt x y = false → ¬ x < y) := ⟨fun h => Decidable.byContradiction fun q => by simp [(flt q).1] at h, fun h q => by simp [(tlt q).1] at h⟩
theorem h_ge {x y : Int32} : (if_icmp.holds .ge x y = true → ¬ x < y) ∧ (if_icmp.holds .ge x y = false → x < y) := ⟨fun h q => by simp [(tlt q).2.1] at h, fun h => Decidable.byContradiction fun q => by simp [(flt q).2.1] at h⟩
theorem h_gt {x y : Int32} : (if_icmp.holds .gt x y = true → y < x) ∧ (if_icmp.holds .gt x y = false → ¬ y < x) := ⟨fun h => Decidable.byContradiction fun q => by simp [(flt q).2.2.1] at h, fun h q => by simp [(tlt q).2.2.1] at h⟩
theorem h_le {x y : Int32} : (if_icmp.holds .le x y = true → ¬ y < x) ∧ (if_icmp.holds .le x y = false → y < x) := ⟨fun h q => by simp [(tlt q).2.2.2] at h, fun h => Decidable.byContradiction fun q => by simp [(flt q).2.2.2] at h⟩
theorem h_eq {x y : Int32} : (if_icmp.holds .eq x y = true → x = y) ∧ (if_icmp.holds .eq x y = false → ¬ x = y) := ⟨fun h => Decidable.byContradiction fun q => by simp [(feq q).1] at h, fun h q => by simp [(teq q).1] at h⟩
theorem h_ne {x y : Int32} : (if_icmp.holds .ne x y = true → ¬ x = y) ∧ (if_icmp.holds .ne x y = false → x = y) := ⟨fun h q => by simp [(teq q).2] at h, fun h => Decidable.byContradiction fun q => by simp [(feq q).2] at h⟩
theorem w_icmp_lt (X : Stand p l e R s m args below meth c T locs cells slots) (hx : p.tables.exec = Jvm.exec) {x y : Int32} {o : Int} {pt pf : Nat} (hd : decode c.code pc = .ok (.if_icmp .lt o, 3)) (hf : pc + 3 = pf) (ho : 0 ≤ (pc : Int) + o) (hp : ((pc : Int) + o).toNat = pt)
    (kT : x < y → Go p e below s cm sm Q T (mkF m pt Ls St)) (kF : ¬ (x < y) → Go p e below s cm sm Q T (mkF m pf Ls St)) : Go p e below s cm sm Q T (mkF m pc Ls (.int y :: .int x :: St)) :=
  w_icmp0 X hx hd hf ho hp (fun h => kT (h_lt.1 h)) (fun h => kF (h_lt.2 h))
theorem w_if_lt (X : Stand p l e R s m args below meth c T locs cells slots) (hx : p.tables.exec = Jvm.exec) {x : Int32} {o : Int} {pt pf : Nat} (hd : decode c.code pc = .ok (.ifCond .lt o, 3)) (hf : pc + 3 = pf) (ho : 0 ≤ (pc : Int) + o) (hp : ((pc : Int) + o).toNat = pt)
    (kT : x < 0 → Go p e below s cm sm Q T (mkF m pt Ls St)) (kF : ¬ (x < 0) → Go p e below s cm sm Q T (mkF m pf Ls St)) : Go p e below s cm sm Q T (mkF m pc Ls (.int x :: St)) :=
  w_if0 X hx hd hf ho hp (fun h => kT (h_lt.1 h)) (fun h => kF (h_lt.2 h))
theorem w_ifL_lt (X : Stand p l e R s m args below meth c T locs cells slots) (hx : p.tables.exec = Jvm.exec) {x y : Int64} {o : Int} {pt pf : Nat} (hd : decode c.code pc = .ok (.ifCond .lt o, 3)) (hf : pc + 3 = pf) (ho : 0 ≤ (pc : Int) + o) (hp : ((pc : Int) + o).toNat = pt)
    (kT : x < y → Go p e below s cm sm Q T (mkF m pt Ls St)) (kF : ¬ (x < y) → Go p e below s cm sm Q T (mkF m pf Ls St)) : Go p e below s cm sm Q T (mkF m pc Ls (.int (lcmpW x y) :: St)) :=
  w_if_lt X hx hd hf ho hp (fun q => kT ((lw_lt x y).1 q)) (fun q => kF (fun r => q ((lw_lt x y).2 r)))
theorem w_icmp_ge (X : Stand p l e R s m args below meth c T locs cells slots) (hx : p.tables.exec = Jvm.exec) {x y : Int32} {o : Int} {pt pf : Nat} (hd : decode c.code pc = .ok (.if_icmp .ge o, 3)) (hf : pc + 3 = pf) (ho : 0 ≤ (pc : Int) + o) (hp : ((pc : Int) + o).toNat = pt)
    (kT : ¬ (x < y) → Go p e below s cm sm Q T (mkF m pt Ls St)) (kF : x < y → Go p e below s cm sm Q T (mkF m pf Ls St)) : Go p e below s cm sm Q T (mkF m pc Ls (.int y :: .int x :: St)) :=
  w_icmp0 X hx hd hf ho hp (fun h => kT (h_ge.1 h)) (fun h => kF (h_ge.2 h))
theorem w_if_ge (X : Stand p l e R s m args below meth c T locs cells slots) (hx : p.tables.exec = Jvm.exec) {x : Int32} {o : Int} {pt pf : Nat} (hd : decode c.code pc = .ok (.ifCond .ge o, 3)) (hf : pc + 3 = pf) (ho : 0 ≤ (pc : Int) + o) (hp : ((pc : Int) + o).toNat = pt)
    (kT : ¬ (x < 0) → Go p e below s cm sm Q T (mkF m pt Ls St)) (kF : x < 0 → Go p e below s cm sm Q T (mkF m pf Ls St)) : Go p e below s cm sm Q T (mkF m pc Ls (.int x :: St)) :=
  w_if0 X hx hd hf ho hp (fun h => kT (h_ge.1 h)) (fun h => kF (h_ge.2 h))
theorem w_ifL_ge (X : Stand p l e R s m args below meth c T locs cells slots) (hx : p.tables.exec = Jvm.exec) {x y : Int64} {o : Int} {pt pf : Nat} (hd : decode c.code pc = .ok (.ifCond .ge o, 3)) (hf : pc + 3 = pf) (ho : 0 ≤ (pc : Int) + o) (hp : ((pc : Int) + o).toNat = pt)
    (kT : ¬ (x < y) → Go p e below s cm sm Q T (mkF m pt Ls St)) (kF : x < y → Go p e below s cm sm Q T (mkF m pf Ls St)) : Go p e below s cm sm Q T (mkF m pc Ls (.int (lcmpW x y) :: St)) :=
  w_if_ge X hx hd hf ho hp (fun q => kT (fun r => q ((lw_lt x y).2 r))) (fun q => kF ((lw_lt x y).1 q))
theorem w_icmp_gt (X : Stand p l e R s m args below meth c T locs cells slots) (hx : p.tables.exec = Jvm.exec) {x y : Int32} {o : Int} {pt pf : Nat} (hd : decode c.code pc = .ok (.if_icmp .gt o, 3)) (hf : pc + 3 = pf) (ho : 0 ≤ (pc : Int) + o) (hp : ((pc : Int) + o).toNat = pt)
    (kT : y < x → Go p e below s cm sm Q T (mkF m pt Ls St)) (kF : ¬ (y < x) → Go p e below s cm sm Q T (mkF m pf Ls St)) : Go p e below s cm sm Q T (mkF m pc Ls (.int y :: .int x :: St)) :=
  w_icmp0 X hx hd hf ho hp (fun h => kT (h_gt.1 h)) (fun h => kF (h_gt.2 h))
theorem w_if_gt (X : Stand p l e R s m args below meth c T locs cells slots) (hx : p.tables.exec = Jvm.exec) {x : Int32} {o : Int} {pt pf : Nat} (hd : decode c.code pc = .ok (.ifCond .gt o, 3)) (hf : pc + 3 = pf) (ho : 0 ≤ (pc : Int) + o) (hp : ((pc : Int) + o).toNat = pt)
    (kT : 0 < x → Go p e below s cm sm Q T (mkF m pt Ls St)) (kF : ¬ (0 < x) → Go p e below s cm sm Q T (mkF m pf Ls St)) : Go p e below s cm sm Q T (mkF m pc Ls (.int x :: St)) :=
  w_if0 X hx hd hf ho hp (fun h => kT (h_gt.1 h)) (fun h => kF (h_gt.2 h))
theorem w_ifL_gt (X : Stand p l e R s m args below meth c T locs cells slots) (hx : p.tables.exec = Jvm.exec) {x y : Int64} {o : Int} {pt pf : Nat} (hd : decode c.code pc = .ok (.ifCond .gt o, 3)) (hf : pc + 3 = pf) (ho : 0 ≤ (pc : Int) + o) (hp : ((pc : Int) + o).toNat = pt)
    (kT : y < x → Go p e below s cm sm Q T (mkF m pt Ls St)) (kF : ¬ (y < x) → Go p e below s cm sm Q T (mkF m pf Ls St)) : Go p e below s cm sm Q T (mkF m pc Ls (.int (lcmpW x y) :: St)) :=
  w_if_gt X hx hd hf ho hp (fun q => kT ((lw_gt x y).1 q)) (fun q => kF (fun r => q ((lw_gt x y).2 r)))
theorem w_icmp_le (X : Stand p l e R s m args below meth c T locs cells slots) (hx : p.tables.exec = Jvm.exec) {x y : Int32} {o : Int} {pt pf : Nat} (hd : decode c.code pc = .ok (.if_icmp .le o, 3)) (hf : pc + 3 = pf) (ho : 0 ≤ (pc : Int) + o) (hp : ((pc : Int) + o).toNat = pt)
    (kT : ¬ (y < x) → Go p e below s cm sm Q T (mkF m pt Ls St)) (kF : y < x → Go p e below s cm sm Q T (mkF m pf Ls St)) : Go p e below s cm sm Q T (mkF m pc Ls (.int y :: .int x :: St)) :=
  w_icmp0 X hx hd hf ho hp (fun h => kT (h_le.1 h)) (fun h => kF (h_le.2 h))
theorem w_if_le (X : Stand p l e R s m args below meth c T locs cells slots) (hx : p.tables.exec = Jvm.exec) {x : Int32} {o : Int} {pt pf : Nat} (hd : decode c.code pc = .ok (.ifCond .le o, 3)) (hf : pc + 3 = pf) (ho : 0 ≤ (pc : Int) + o) (hp : ((pc : Int) + o).toNat = pt)
    (kT : ¬ (0 < x) → Go p e below s cm sm Q T (mkF m pt Ls St)) (kF : 0 < x → Go p e below s cm sm Q T (mkF m pf Ls St)) : Go p e below s cm sm Q T (mkF m pc Ls (.int x :: St)) :=
  w_if0 X hx hd hf ho hp (fun h => kT (h_le.1 h)) (fun h => kF (h_le.2 h))
theorem w_ifL_le (X : Stand p l e R s m args below meth c T locs cells slots) (hx : p.tables.exec = Jvm.exec) {x y : Int64} {o : Int} {pt pf : Nat} (hd : decode c.code pc = .ok (.ifCond .le o, 3)) (hf : pc + 3 = pf) (ho : 0 ≤ (pc : Int) + o) (hp : ((pc : Int) + o).toNat = pt)
    (kT : ¬ (y < x) → Go p e below s cm sm Q T (mkF m pt Ls St)) (kF : y < x → Go p e below s cm sm Q T (mkF m pf Ls St)) : Go p e below s cm sm Q T (mkF m pc Ls (.int (lcmpW x y) :: St)) :=
  w_if_le X hx hd hf ho hp (fun q => kT (fun r => q ((lw_gt x y).2 r))) (fun q => kF ((lw_gt x y).1 q))
theorem w_icmp_eq (X : Stand p l e R s m args below meth c T locs cells slots) (hx : p.tables.exec = Jvm.exec) {x y : Int32} {o : Int} {pt pf : Nat} (hd : decode c.code pc = .ok (.if_icmp .eq o, 3)) (hf : pc + 3 = pf) (ho : 0 ≤ (pc : Int) + o) (hp : ((pc : Int) + o).toNat = pt)
    (kT : x = y → Go p e below s cm sm Q T (mkF m pt Ls St)) (kF : ¬ (x = y) → Go p e below s cm sm Q T (mkF m pf Ls St)) : Go p e below s cm sm Q T (mkF m pc Ls (.int y :: .int x :: St)) :=
  w_icmp0 X hx hd hf ho hp (fun h => kT (h_eq.1 h)) (fun h => kF (h_eq.2 h))
theorem w_if_eq (X : Stand p l e R s m args below meth c T locs cells slots) (hx : p.tables.exec = Jvm.exec) {x : Int32} {o : Int} {pt pf : Nat} (hd : decode c.code pc = .ok (.ifCond .eq o, 3)) (hf : pc + 3 = pf) (ho : 0 ≤ (pc : Int) + o) (hp : ((pc : Int) + o).toNat = pt)
    (kT : x = 0 → Go p e below s cm sm Q T (mkF m pt Ls St)) (kF : ¬ (x = 0) → Go p e below s cm sm Q T (mkF m pf Ls St)) : Go p e below s cm sm Q T (mkF m pc Ls (.int x :: St)) :=
  w_if0 X hx hd hf ho hp (fun h => kT (h_eq.1 h)) (fun h => kF (h_eq.2 h))
theorem w_ifL_eq (X : Stand p l e R s m args below meth c T locs cells slots) (hx : p.tables.exec = Jvm.exec) {x y : Int64} {o : Int} {pt pf : Nat} (hd : decode c.code pc = .ok (.ifCond .eq o, 3)) (hf : pc + 3 = pf) (ho : 0 ≤ (pc : Int) + o) (hp : ((pc : Int) + o).toNat = pt)
    (kT : x = y → Go p e below s cm sm Q T (mkF m pt Ls St)) (kF : ¬ (x = y) → Go p e below s cm sm Q T (mkF m pf Ls St)) : Go p e below s cm sm Q T (mkF m pc Ls (.int (lcmpW x y) :: St)) :=
  w_if_eq X hx hd hf ho hp (fun q => kT ((lw_eq x y).1 q)) (fun q => kF (fun r => q ((lw_eq x y).2 r)))
theorem w_icmp_ne (X : Stand p l e R s m args below meth c T locs cells slots) (hx : p.tables.exec = Jvm.exec) {x y : Int32} {o : Int} {pt pf : Nat} (hd : decode c.code pc = .ok (.if_icmp .ne o, 3)) (hf : pc + 3 = pf) (ho : 0 ≤ (pc : Int) + o) (hp : ((pc : Int) + o).toNat = pt)
    (kT : ¬ (x = y) → Go p e below s cm sm Q T (mkF m pt Ls St)) (kF : x = y → Go p e below s cm sm Q T (mkF m pf Ls St)) : Go p e below s cm sm Q T (mkF m pc Ls (.int y :: .int x :: St)) :=
  w_icmp0 X hx hd hf ho hp (fun h => kT (h_ne.1 h)) (fun h => kF (h_ne.2 h))
theorem w_if_ne (X : Stand p l e R s m args below meth c T locs cells slots) (hx : p.tables.exec = Jvm.exec) {x : Int32} {o : Int} {pt pf : Nat} (hd : decode c.code pc = .ok (.ifCond .ne o, 3)) (hf : pc + 3 = pf) (ho : 0 ≤ (pc : Int) + o) (hp : ((pc : Int) + o).toNat = pt)
    (kT : ¬ (x = 0) → Go p e below s cm sm Q T (mkF m pt Ls St)) (kF : x = 0 → Go p e below s cm sm Q T (mkF m pf Ls St)) : Go p e below s cm sm Q T (mkF m pc Ls (.int x :: St)) :=
  w_if0 X hx hd hf ho hp (fun h => kT (h_ne.1 h)) (fun h => kF (h_ne.2 h))
theorem w_ifL_ne (X : Stand p l e R s m args below meth c T locs cells slots) (hx : p.tables.exec = Jvm.exec) {x y : Int64} {o : Int} {pt pf : Nat} (hd : decode c.code pc = .ok (.ifCond .ne o, 3)) (hf : pc + 3 = pf) (ho : 0 ≤ (pc : Int) + o) (hp : ((pc : Int) + o).toNat = pt)
    (kT : ¬ (x = y) → Go p e below s cm sm Q T (mkF m pt Ls St)) (kF : x = y → Go p e below s cm sm Q T (mkF m pf Ls St)) : Go p e below s cm sm Q T (mkF m pc Ls (.int (lcmpW x y) :: St)) :=
  w_if_ne X hx hd hf ho hp (fun q => kT (fun r => q ((lw_eq x y).2 r))) (fun q => kF ((lw_eq x y).1 q))
theorem w_ldc (X : Stand p l e R s m args below meth c T locs cells slots) (hx : p.tables.exec = Jvm.exec) (hZ : Z.Warmed39 s.vm) {own : String} {index : Nat} {v : Int32} (hown : s.vm.findClass own = some m.cls) (w : (Jvm.Cond.constant own index v).before a0 Z = true) (hd : decode c.code pc = .ok (.ldc index, 2)) (hp : pc + 2 = pc')
    (kk : Go p e below s cm sm Q T (mkF m pc' Ls (.int v :: St))) : Go p e below s cm sm Q T (mkF m pc Ls St) := by
  subst hp
  exact Go.st (fun t q => X.ldcInt hx hown (mvT hZ w) (g := mkF m pc Ls St) rfl hd t q) kk
theorem w_ldcw (X : Stand p l e R s m args below meth c T locs cells slots) (hx : p.tables.exec = Jvm.exec) (hZ : Z.Warmed39 s.vm) {own : String} {index : Nat} {v : Int32} (hown : s.vm.findClass own = some m.cls) (w : (Jvm.Cond.constant own index v).before a0 Z = true) (hd : decode c.code pc = .ok (.ldc_w index, 3)) (hp : pc + 3 = pc')
    (kk : Go p e below s cm sm Q T (mkF m pc' Ls (.int v :: St))) : Go p e below s cm sm Q T (mkF m pc Ls St) := by
  subst hp
  exact Go.st (fun t q => X.ldcWI hx hown (mvT hZ w) (g := mkF m pc Ls St) rfl hd q) kk
theorem w_ldc2 (X : Stand p l e R s m args below meth c T locs cells slots) (hx : p.tables.exec = Jvm.exec) (hZ : Z.Warmed39 s.vm) {own : String} {index : Nat} {v : Int64} (hown : s.vm.findClass own = some m.cls) (w : (Jvm.Cond.constantLong own index v).before a0 Z = true) (hd : decode c.code pc = .ok (.ldc2_w index, 3)) (hp : pc + 3 = pc')
    (kk : Go p e below s cm sm Q T (mkF m pc' Ls (.long v :: St))) : Go p e below s cm sm Q T (mkF m pc Ls St) := by
  subst hp
  exact Go.st (fun t q => X.ldc2Long hx hown (mvT hZ w) (g := mkF m pc Ls St) rfl hd t q) kk
theorem w_retZ (X : Stand p l e R s m args below meth c T locs cells slots) (hx : p.tables.exec = Jvm.exec) (hret : meth.sig.returnType = some .boolean) (hlk : meth.locks = false) {z : Int32} (hd : decode c.code pc = .ok (.ireturn, 1)) (hc : cells ≤ cm) (hs : slots ≤ sm) (hQ : Q (some (.int (nar .boolean z))) T.heap locs) : Go p e below s cm sm Q T (mkF m pc Ls (.int z :: St)) := by
  obtain ⟨fs, hr, hrun, hended, hW, hsame⟩ := X.leave (v := some (.int (nar .boolean z))) (fun h => by rw [hret] at h; cases h) hlk
  exact ⟨_, _, retN X hx (t := .boolean) hret (by simp) hd hr, hrun, hended, _, _, rfl, hQ, ⟨_, rfl⟩, hW, hsame.mono hc hs⟩
theorem w_retB (X : Stand p l e R s m args below meth c T locs cells slots) (hx : p.tables.exec = Jvm.exec) (hret : meth.sig.returnType = some .byte) (hlk : meth.locks = false) {z : Int32} (hd : decode c.code pc = .ok (.ireturn, 1)) (hc : cells ≤ cm) (hs : slots ≤ sm) (hQ : Q (some (.int (nar .byte z))) T.heap locs) : Go p e below s cm sm Q T (mkF m pc Ls (.int z :: St)) := by
  obtain ⟨fs, hr, hrun, hended, hW, hsame⟩ := X.leave (v := some (.int (nar .byte z))) (fun h => by rw [hret] at h; cases h) hlk
  exact ⟨_, _, retN X hx (t := .byte) hret (by simp) hd hr, hrun, hended, _, _, rfl, hQ, ⟨_, rfl⟩, hW, hsame.mono hc hs⟩
theorem w_retC (X : Stand p l e R s m args below meth c T locs cells slots) (hx : p.tables.exec = Jvm.exec) (hret : meth.sig.returnType = some .char) (hlk : meth.locks = false) {z : Int32} (hd : decode c.code pc = .ok (.ireturn, 1)) (hc : cells ≤ cm) (hs : slots ≤ sm) (hQ : Q (some (.int (nar .char z))) T.heap locs) : Go p e below s cm sm Q T (mkF m pc Ls (.int z :: St)) := by
  obtain ⟨fs, hr, hrun, hended, hW, hsame⟩ := X.leave (v := some (.int (nar .char z))) (fun h => by rw [hret] at h; cases h) hlk
  exact ⟨_, _, retN X hx (t := .char) hret (by simp) hd hr, hrun, hended, _, _, rfl, hQ, ⟨_, rfl⟩, hW, hsame.mono hc hs⟩
theorem w_retS (X : Stand p l e R s m args below meth c T locs cells slots) (hx : p.tables.exec = Jvm.exec) (hret : meth.sig.returnType = some .short) (hlk : meth.locks = false) {z : Int32} (hd : decode c.code pc = .ok (.ireturn, 1)) (hc : cells ≤ cm) (hs : slots ≤ sm) (hQ : Q (some (.int (nar .short z))) T.heap locs) : Go p e below s cm sm Q T (mkF m pc Ls (.int z :: St)) := by
  obtain ⟨fs, hr, hrun, hended, hW, hsame⟩ := X.leave (v := some (.int (nar .short z))) (fun h => by rw [hret] at h; cases h) hlk
  exact ⟨_, _, retN X hx (t := .short) hret (by simp) hd hr, hrun, hended, _, _, rfl, hQ, ⟨_, rfl⟩, hW, hsame.mono hc hs⟩
theorem w_retI (X : Stand p l e R s m args below meth c T locs cells slots) (hx : p.tables.exec = Jvm.exec) (hret : meth.sig.returnType = some .int) (hlk : meth.locks = false) {z : Int32} (hd : decode c.code pc = .ok (.ireturn, 1)) (hc : cells ≤ cm) (hs : slots ≤ sm) (hQ : Q (some (.int z)) T.heap locs) : Go p e below s cm sm Q T (mkF m pc Ls (.int z :: St)) := by
  obtain ⟨fs, hr, hrun, hended, hW, hsame⟩ := X.leave (v := some (.int z)) (fun h => by rw [hret] at h; cases h) hlk
  refine ⟨T.setFrames fs, _, ?_, hrun, hended, _, _, rfl, hQ, ⟨_, rfl⟩, hW, hsame.mono hc hs⟩
  have hm' : T.vm.method? m = some meth := X.method'
  have hn : narrow .int (.int z) = .int z := rfl
  show Steps p.tables e below (T.setTop { method := m, pc := pc, locals := Ls, stack := .int z :: St, locked := none }) _
  jvm_step X.here [X.here.top, hx, hd, hm', hret, hn]
  first | (intro acts; rw [hr _ acts rfl rfl rfl]) | rw [hr _ _ rfl rfl rfl]
  exact Steps.refl _
theorem w_retJ (X : Stand p l e R s m args below meth c T locs cells slots) (hx : p.tables.exec = Jvm.exec) (hret : meth.sig.returnType = some .long) (hlk : meth.locks = false) {z : Int64} (hd : decode c.code pc = .ok (.lreturn, 1)) (hc : cells ≤ cm) (hs : slots ≤ sm) (hQ : Q (some (.long z)) T.heap locs) : Go p e below s cm sm Q T (mkF m pc Ls [.long z]) := by
  obtain ⟨fs, hr, hrun, hended, hW, hsame⟩ := X.leave (v := some (.long z)) (fun h => by rw [hret] at h; cases h) hlk
  exact ⟨T.setFrames fs, _, X.lreturnOut hx hret hd hr, hrun, hended, _, _, rfl, hQ, ⟨_, rfl⟩, hW, hsame.mono hc hs⟩
theorem w_retV (X : Stand p l e R s m args below meth c T locs cells slots) (hx : p.tables.exec = Jvm.exec) (hret : meth.sig.returnType = none) (hlk : meth.locks = false) (hd : decode c.code pc = .ok (.return_, 1)) (hc : cells ≤ cm) (hs : slots ≤ sm) (hQ : Q none T.heap locs) : Go p e below s cm sm Q T (mkF m pc Ls []) := by
  obtain ⟨fs, hr, hrun, hended, hW, hsame⟩ := X.leave (v := none) (fun _ => rfl) hlk
  exact ⟨T.setFrames fs, _, X.returnOut hx hret hd hr, hrun, hended, _, _, rfl, hQ, ⟨_, rfl⟩, hW, hsame.mono hc hs⟩
theorem w_retA (X : Stand p l e R s m args below meth c T locs cells slots) (hx : p.tables.exec = Jvm.exec) {rt : FieldType} (hret : meth.sig.returnType = some rt) (hrt : rt.isReference = true) (hlk : meth.locks = false) {a : Addr} (hd : decode c.code pc = .ok (.areturn, 1)) (hc : cells ≤ cm) (hs : slots ≤ sm) (hQ : Q (some (.ref a)) T.heap locs) : Go p e below s cm sm Q T (mkF m pc Ls (.ref a :: St)) := by
  obtain ⟨fs, hr, hrun, hended, hW, hsame⟩ := X.leave (v := some (.ref a)) (fun h => by rw [hret] at h; cases h) hlk
  refine ⟨T.setFrames fs, _, ?_, hrun, hended, _, _, rfl, hQ, ⟨_, rfl⟩, hW, hsame.mono hc hs⟩
  have hm' : T.vm.method? m = some meth := X.method'
  show Steps p.tables e below (T.setTop { method := m, pc := pc, locals := Ls, stack := .ref a :: St, locked := none }) _
  jvm_step X.here [X.here.top, hx, hd, hm', hret, Value.isRef, hrt]
  first | (intro acts; rw [hr _ acts rfl rfl rfl]) | rw [hr _ _ rfl rfl rfl]
  exact Steps.refl _
theorem Con.back {y : MethodName} {bytes : ByteArray} {maxL : Nat} {ret : Option FieldType} {rm : Room} {len W : Nat} {as' : Array Value} {Qc : Option Value → Heap → List Loc → Prop} (C : Con l Z y bytes maxL ret rm as' h Qc) (hZ : Z.Warmed39 s.vm) (wc : (Jvm.Cond.code y bytes maxL ret).before a0 Z = true) (wz : (Jvm.Cond.initialized y.cls).before a0 Z = true) (hf : rm.frames + 1 ≤ R.frames) (hl : W + (maxL + 11) + rm.locals ≤ R.locals) :
    Back l R p e below s args y len W (fun A a => a = as' ∧ A.U.heap = h ∧ A.cells + rm.cells ≤ R.cells ∧ A.slots + rm.slots ≤ R.slots) (fun A _ v B => ∃ L, Qc v B.U.heap L ∧ B.locs = A.locs ++ L ∧ B.cells = A.cells + rm.cells ∧ B.slots = A.slots + rm.slots) :=
  backOf (C []) hZ wc wz hf hl
theorem w_callS (X : Stand p l e R s m args below meth c T locs cells slots) (hx : p.tables.exec = Jvm.exec) (hZ : Z.Warmed39 s.vm) {own : String} {index : Nat} {y : MethodName} {bytes : ByteArray} {maxL : Nat} {ret : Option FieldType} {rm : Room} {W : Nat} {argsL rest : List Value} {Qc : Option Value → Heap → List Loc → Prop} (hown : s.vm.findClass own = some m.cls) (eT : T.heap = h) (C : Con l Z y bytes maxL ret rm argsL.toArray h Qc) (w1 : (Jvm.Cond.methodLink own index y).before a0 Z = true) (w2 : (Jvm.Cond.static y).before a0 Z = true) (w3 : (Jvm.Cond.initialized y.cls).before a0 Z = true) (w4 : (Jvm.Cond.code y bytes maxL ret).before a0 Z = true) (hy : y.cls ≠ "java/lang/invoke/MethodHandle" ∧ y.cls ≠ "java/lang/invoke/VarHandle")
    (hf : rm.frames + 1 ≤ R.frames) (hl : W + (maxL + 11) + rm.locals ≤ R.locals) (hc : cells + rm.cells ≤ R.cells) (hs : slots + rm.slots ≤ R.slots) (hsz : Ls.size = c.maxLocals) (hlen : ∀ sig, parseMethodDescriptor y.desc = some sig → argsL.length = sig.parameters.length) (hW : (rest.map fun v => v.category).sum ≤ W) (hst : St = argsL.reverse ++ rest) (hd : decode c.code pc = .ok (.invokestatic index, 3)) (hp : pc + 3 = pc')
    (kk : ∀ (T' : State) (L : List Loc) (v : Option Value), Stand p l e R s m args below meth c T' (locs ++ L) (cells + rm.cells) (slots + rm.slots) → Qc v T'.heap L → Go p e below s cm sm Q T' (mkF m pc' Ls (v.toList ++ rest))) : Go p e below s cm sm Q T (mkF m pc Ls St) := by
  subst hp hst
  obtain ⟨v, _, ⟨T1, L1, k1, n1⟩, -, X1, ⟨Lc, hQ, l1, y1, z1⟩, st⟩ := Jvm.LawKit.callS X hx (y := y) hown (mvT hZ w1) (mvT hZ w2) (mvT hZ w3) (mvT hZ w4) hy (C.back (W := W) hZ w4 w3 hf hl) (g := mkF m pc Ls (argsL.reverse ++ rest)) rfl hsz (argsL := argsL) (rest := rest) hlen rfl (by show 2 * 0 + _ ≤ _; rw [Nat.mul_zero, Nat.zero_add]; exact hW) hd (fun _ _ => ⟨rfl, eT, hc, hs⟩)
  dsimp only [Pt.U, Pt.locs, Pt.cells, Pt.slots] at X1 l1 y1 z1 st hQ
  subst l1 y1 z1
  exact Go.st st (kk _ _ _ X1 hQ)
theorem w_callI (X : Stand p l e R s m args below meth c T locs cells slots) (hx : p.tables.exec = Jvm.exec) (hZ : Z.Warmed39 s.vm) {own : String} {index : Nat} {y : MethodName} {bytes : ByteArray} {maxL : Nat} {rm : Room} {W : Nat} {argsL rest : List Value} {Qc : Option Value → Heap → List Loc → Prop} {a : Addr} (hown : s.vm.findClass own = some m.cls) (eT : T.heap = h) (C : Con l Z y bytes maxL none rm (.ref a :: argsL).toArray h Qc) (hn : y.name = "<init>") (w1 : (Jvm.Cond.methodLink own index y).before a0 Z = true) (w2 : (Jvm.Cond.instanceMethod y).before a0 Z = true) (w3 : (Jvm.Cond.initialized y.cls).before a0 Z = true) (w4 : (Jvm.Cond.code y bytes maxL none).before a0 Z = true) (hy : y.cls ≠ "java/lang/invoke/MethodHandle" ∧ y.cls ≠ "java/lang/invoke/VarHandle")
    (hf : rm.frames + 1 ≤ R.frames) (hl : W + (maxL + 11) + rm.locals ≤ R.locals) (hc : cells + rm.cells ≤ R.cells) (hs : slots + rm.slots ≤ R.slots) (hsz : Ls.size = c.maxLocals) (hlen : ∀ sig, parseMethodDescriptor y.desc = some sig → argsL.length = sig.parameters.length) (hW : (rest.map fun v => v.category).sum ≤ W) (hst : St = argsL.reverse ++ .ref a :: rest) (hd : decode c.code pc = .ok (.invokespecial index, 3)) (hp : pc + 3 = pc')
    (kk : ∀ (T' : State) (L : List Loc) (v : Option Value), Stand p l e R s m args below meth c T' (locs ++ L) (cells + rm.cells) (slots + rm.slots) → Qc v T'.heap L → Go p e below s cm sm Q T' (mkF m pc' Ls (v.toList ++ rest))) : Go p e below s cm sm Q T (mkF m pc Ls St) := by
  subst hp hst
  obtain ⟨v, _, ⟨T1, L1, k1, n1⟩, -, X1, ⟨Lc, hQ, l1, y1, z1⟩, st⟩ := X.specialBack hx (y := y) hn hown (mvT hZ w1) (mvT hZ w2) (mvT hZ w4) hy (C.back (W := W) hZ w4 w3 hf hl) (g := mkF m pc Ls (argsL.reverse ++ .ref a :: rest)) rfl hsz (Steps.refl _) (a := a) (argsL := argsL) (rest := rest) hlen rfl (by show 2 * 0 + _ ≤ _; rw [Nat.mul_zero, Nat.zero_add]; exact hW) hd (fun _ _ => ⟨rfl, eT, hc, hs⟩)
  dsimp only [Pt.U, Pt.locs, Pt.cells, Pt.slots] at X1 l1 y1 z1 st hQ
  subst l1 y1 z1
  exact Go.st (fun t q => st.trans q) (kk _ _ _ X1 hQ)
theorem w_callV (X : Stand p l e R s m args below meth c T locs cells slots) (hx : p.tables.exec = Jvm.exec) (hZ : Z.Warmed39 s.vm) {own : String} {index : Nat} {y : MethodName} {bytes : ByteArray} {maxL : Nat} {ret : Option FieldType} {rm : Room} {W : Nat} {argsL rest : List Value} {Qc : Option Value → Heap → List Loc → Prop} {a : Addr} (hown : s.vm.findClass own = some m.cls) (eT : T.heap = h) (E : Exa Z h a y.cls) (C : Con l Z y bytes maxL ret rm (.ref a :: argsL).toArray h Qc) (w1 : (Jvm.Cond.methodLink own index y).before a0 Z = true) (wd : (Jvm.Cond.declares y).before a0 Z = true) (ws : (Jvm.Cond.selects y.cls y y).before a0 Z = true) (w2 : (Jvm.Cond.instanceMethod y).before a0 Z = true) (w3 : (Jvm.Cond.initialized y.cls).before a0 Z = true) (w4 : (Jvm.Cond.code y bytes maxL ret).before a0 Z = true) (hy : y.cls ≠ "java/lang/invoke/MethodHandle" ∧ y.cls ≠ "java/lang/invoke/VarHandle")
    (hf : rm.frames + 1 ≤ R.frames) (hl : W + (maxL + 11) + rm.locals ≤ R.locals) (hc : cells + rm.cells ≤ R.cells) (hs : slots + rm.slots ≤ R.slots) (hsz : Ls.size = c.maxLocals) (hlen : ∀ sig, parseMethodDescriptor y.desc = some sig → argsL.length = sig.parameters.length) (hW : (rest.map fun v => v.category).sum ≤ W) (hst : St = argsL.reverse ++ .ref a :: rest) (hd : decode c.code pc = .ok (.invokevirtual index, 3)) (hp : pc + 3 = pc')
    (kk : ∀ (T' : State) (L : List Loc) (v : Option Value), Stand p l e R s m args below meth c T' (locs ++ L) (cells + rm.cells) (slots + rm.slots) → Qc v T'.heap L → Go p e below s cm sm Q T' (mkF m pc' Ls (v.toList ++ rest))) : Go p e below s cm sm Q T (mkF m pc Ls St) := by
  subst hp hst
  obtain ⟨cq, kq, qa, qb, qc⟩ := isOf hZ eT E
  obtain ⟨v, _, ⟨T1, L1, k1, n1⟩, -, X1, ⟨Lc, hQ, l1, y1, z1⟩, st⟩ := X.virtualBack hx (y := y) (z := y) hown (mvT hZ w1) (mvT hZ wd) (notFace_of_selects (args := #[]) (mvT hZ ws)) (mvT hZ ws) (mvT hZ w2) hy (C.back (W := W) hZ w4 w3 hf hl) qa qc (g := mkF m pc Ls (argsL.reverse ++ .ref a :: rest)) rfl hsz (Steps.refl _) (argsL := argsL) (rest := rest) hlen rfl (by show 2 * 0 + _ ≤ _; rw [Nat.mul_zero, Nat.zero_add]; exact hW) hd (fun _ _ => ⟨rfl, eT, hc, hs⟩)
  dsimp only [Pt.U, Pt.locs, Pt.cells, Pt.slots] at X1 l1 y1 z1 st hQ
  subst l1 y1 z1
  exact Go.st (fun t q => st.trans q) (kk _ _ _ X1 hQ)
theorem w_initO (X : Stand p l e R s m args below meth c T locs cells slots) (hx : p.tables.exec = Jvm.exec) (hZ : Z.Warmed39 s.vm) {own : String} {index : Nat} {a : Addr} (hown : s.vm.findClass own = some m.cls) (eT : T.heap = h) (w1 : (Jvm.Cond.methodLink own index Lib.objectInit).before a0 Z = true) (w2 : (Jvm.Cond.instanceMethod Lib.objectInit).before a0 Z = true) (w3 : (Jvm.Cond.code Lib.objectInit ⟨#[0xb1]⟩ 1 none).before a0 Z = true) (hsz : Ls.size = c.maxLocals) (hd : decode c.code pc = .ok (.invokespecial index, 3)) (hf : 1 ≤ R.frames) {W : Nat} (hW : (St.map fun v => v.category).sum ≤ W) (hl : W + 12 ≤ R.locals) (hp : pc + 3 = pc')
    (kk : ∀ T' : State, Stand p l e R s m args below meth c T' locs cells slots → T'.heap = h → Go p e below s cm sm Q T' (mkF m pc' Ls St)) : Go p e below s cm sm Q T (mkF m pc Ls (.ref a :: St)) := by
  subst hp
  obtain ⟨T1, X1, e1, st⟩ := initO X hx hZ hown w1 w2 w3 eT (g := mkF m pc Ls (.ref a :: St)) rfl hsz rfl hd hf (W := W) (by show 2 * 0 + _ ≤ _; rw [Nat.mul_zero, Nat.zero_add]; exact hW) hl
  exact Go.st st (kk _ X1 e1)
theorem w_getF (X : Stand p l e R s m args below meth c T locs cells slots) (hx : p.tables.exec = Jvm.exec) (hZ : Z.Warmed39 s.vm) {own O n d : String} {index : Nat} {a : Addr} {v : Value} (hown : s.vm.findClass own = some m.cls) (eT : T.heap = h) (F : Fld Z h a O n d v) (w : (Jvm.Cond.fieldLink own index O n d).before a0 Z = true) (hd : decode c.code pc = .ok (.getfield index, 3)) (hp : pc + 3 = pc')
    (kk : ∀ T' : State, Stand p l e R s m args below meth c T' locs cells slots → T'.heap = h → Go p e below s cm sm Q T' (mkF m pc' Ls (v :: St))) : Go p e below s cm sm Q T (mkF m pc Ls (.ref a :: St)) := by
  subst hp
  obtain ⟨T1, X1, e1, st⟩ := getF X hx hZ hown (host := "") (Or.inl w) Via.refl eT F (g := mkF m pc Ls (.ref a :: St)) rfl rfl hd
  exact Go.st st (kk _ X1 e1)
theorem w_putF (X : Stand p l e R s m args below meth c T locs cells slots) (hx : p.tables.exec = Jvm.exec) (hZ : Z.Warmed39 s.vm) {own O n d C : String} {index kn : Nat} {ty : FieldType} {a : Addr} {v old : Value} (hown : s.vm.findClass own = some m.cls) (eT : T.heap = h) (F : Fld Z h a O n d old) (E : Exa Z h a C) (w : (Jvm.Cond.fieldLink own index O n d).before a0 Z = true) (L : (Jvm.Cond.lays C O n d).before a0 Z = true ∨ ((Jvm.Cond.laysFinal C O n d).before a0 Z = true ∧ own = O ∧ meth.name = "<init>")) (wi : (Jvm.Cond.instantiable C kn).before a0 Z = true) (hty : parseFieldDescriptor d = some ty) (hn : narrow ty v = v) (hf : fits ty v = true) (hd : decode c.code pc = .ok (.putfield index, 3)) (hp : pc + 3 = pc')
    (kk : ∀ (T' : State) (h' : Heap), Stand p l e R s m args below meth c T' (locs ++ [⟨a, RoadKit.slotOf Z O n d⟩]) cells slots → T'.heap = h' → Wr h h' a (RoadKit.slotOf Z O n d) v → Go p e below s cm sm Q T' (mkF m pc' Ls St)) : Go p e below s cm sm Q T (mkF m pc Ls (v :: .ref a :: St)) := by
  subst hp
  obtain ⟨T1, h1, X1, e1, W1, st⟩ := putF X hx hZ hown (host := "") (Or.inl w) Via.refl eT F E L wi hty hn hf (g := mkF m pc Ls (v :: .ref a :: St)) rfl rfl hd
  exact Go.st st (kk _ _ X1 e1 W1)
theorem w_newO (X : Stand p l e R s m args below meth c T locs cells slots) (hx : p.tables.exec = Jvm.exec) (hZ : Z.Warmed39 s.vm) {own C : String} {index kn : Nat} (hown : s.vm.findClass own = some m.cls) (eT : T.heap = h) (w : (Jvm.Cond.classLink own index C).before a0 Z = true) (wi : (Jvm.Cond.instantiable C kn).before a0 Z = true) (wz : (Jvm.Cond.initialized C).before a0 Z = true) (hd : decode c.code pc = .ok (.new index, 3)) (hc : cells + 1 ≤ R.cells) (hl : slots + kn ≤ R.slots) (hp : pc + 3 = pc')
    (kk : ∀ (T' : State) (h' : Heap) (b : Addr), Stand p l e R s m args below meth c T' locs (cells + 1) (slots + kn) → T'.heap = h' → Ext h h' → b = h.size → Exa Z h' b C → (∀ {O nm d : String} {ty : FieldType}, Laid Z a0 C O nm d → parseFieldDescriptor d = some ty → Fld Z h' b O nm d (defaultValue ty)) → Go p e below s cm sm Q T' (mkF m pc' Ls (.ref b :: St))) : Go p e below s cm sm Q T (mkF m pc Ls St) := by
  subst hp
  obtain ⟨T1, h1, X1, e1, E1, A1, D1, -, st⟩ := newO X hx hZ hown w wi wz eT (g := mkF m pc Ls St) rfl hd hc hl
  exact Go.st st (kk _ _ _ X1 e1 E1 rfl A1 D1)
/-- an array of ints, bytes, chars, shorts or booleans, by its list -/
def AI (Z : State) (h : Heap) (a : Addr) (ty : FieldType) (vs : List Int32) : Prop := ∃ c : Cell, Arr Z h a c ty ∧ c.slots.toList = vs.map Value.int ∧ vs.length < 2147483648
/-- an array of longs, by its list -/
def AJ (Z : State) (h : Heap) (a : Addr) (vs : List Int64) : Prop := ∃ c : Cell, Arr Z h a c .long ∧ c.slots.toList = vs.map Value.long ∧ vs.length < 2147483648
theorem AI.lt {a : Addr} {ty : FieldType} {vs : List Int32} (F : AI Z h a ty vs) : a < h.size := by obtain ⟨c, q, -⟩ := F; exact q.lt
theorem AI.ext {a : Addr} {ty : FieldType} {vs : List Int32} (F : AI Z h a ty vs) (E : Ext h h') : AI Z h' a ty vs := by obtain ⟨c, q, r⟩ := F; exact ⟨c, q.ext E, r⟩
theorem AI.other {a b : Addr} {ty : FieldType} {vs : List Int32} {sl : Nat} {v : Value} (F : AI Z h a ty vs) (W : Wr h h' b sl v) (q : a ≠ b) : AI Z h' a ty vs := by obtain ⟨c, A, r⟩ := F; exact ⟨c, A.other W q, r⟩
theorem AI.keep {a : Addr} {ty : FieldType} {vs : List Int32} {ws : List Addr} (F : AI Z h a ty vs) (K : Keep h h' ws) (q : a ∉ ws) : AI Z h' a ty vs := by obtain ⟨c, A, r⟩ := F; exact ⟨c, ⟨K.2.1 a c A.1 q, A.2⟩, r⟩
theorem AI.new {a : Addr} {k : ClassId} {z : Int32} {ty : FieldType} (A : Arr Z h a (newA k ty z) ty) (hd : defaultValue ty = .int 0) : AI Z h a ty (List.replicate z.toNatClampNeg 0) := by
  refine ⟨_, A, ?_, ?_⟩
  · simp [newA, hd]
  · have := z.toInt_lt; rw [List.length_replicate]; show z.toInt.toNat < _; omega
theorem AI.wr {a : Addr} {ty : FieldType} {vs : List Int32} {j : Nat} {x : Int32} (F : AI Z h a ty vs) (W : Wr h h' a j (Value.int x)) : AI Z h' a ty (vs.set j x) := by
  obtain ⟨c, A, q, r⟩ := F
  refine ⟨_, A.same W, ?_, by simpa using r⟩
  simp [Cell.setSlot, q, List.map_set]
theorem AI.len {a : Addr} {ty : FieldType} {vs : List Int32} (F : AI Z h a ty vs) : vs.length < 2147483648 := by obtain ⟨c, q, r, t⟩ := F; exact t
theorem AI.sz {vs : List Int32} {c : Cell} (q : c.slots.toList = vs.map Value.int) : c.slots.size = vs.length := by
  have := congrArg List.length q; simpa using this
theorem AI.at {vs : List Int32} {c : Cell} {j : Nat} {x : Int32} (q : c.slots.toList = vs.map Value.int) (hv : vs[j]? = some x) : c.slots[j]? = some (Value.int x) := by
  rw [← Array.getElem?_toList, q]; simp [hv]
theorem AI.inb {vs : List Int32} {c : Cell} {j : Int32} (q : c.slots.toList = vs.map Value.int) (hj : ¬ j < 0) (hl : j.toNatClampNeg < vs.length) : ¬ (j < 0 ∨ c.slots.size ≤ j.toNatClampNeg) := by
  have := AI.sz q
  rw [this]
  rintro (r | r)
  · exact hj r
  · omega
theorem AJ.lt {a : Addr} {vs : List Int64} (F : AJ Z h a vs) : a < h.size := by obtain ⟨c, q, -⟩ := F; exact q.lt
theorem AJ.ext {a : Addr} {vs : List Int64} (F : AJ Z h a vs) (E : Ext h h') : AJ Z h' a vs := by obtain ⟨c, q, r⟩ := F; exact ⟨c, q.ext E, r⟩
theorem AJ.other {a b : Addr} {vs : List Int64} {sl : Nat} {v : Value} (F : AJ Z h a vs) (W : Wr h h' b sl v) (q : a ≠ b) : AJ Z h' a vs := by obtain ⟨c, A, r⟩ := F; exact ⟨c, A.other W q, r⟩
theorem AJ.keep {a : Addr} {vs : List Int64} {ws : List Addr} (F : AJ Z h a vs) (K : Keep h h' ws) (q : a ∉ ws) : AJ Z h' a vs := by obtain ⟨c, A, r⟩ := F; exact ⟨c, ⟨K.2.1 a c A.1 q, A.2⟩, r⟩
theorem AJ.new {a : Addr} {k : ClassId} {z : Int32} (A : Arr Z h a (newA k .long z) .long) : AJ Z h a (List.replicate z.toNatClampNeg 0) := by
  refine ⟨_, A, ?_, ?_⟩
  · simp [newA, defaultValue]
  · have := z.toInt_lt; rw [List.length_replicate]; show z.toInt.toNat < _; omega
theorem AJ.wr {a : Addr} {vs : List Int64} {j : Nat} {x : Int64} (F : AJ Z h a vs) (W : Wr h h' a j (Value.long x)) : AJ Z h' a (vs.set j x) := by
  obtain ⟨c, A, q, r⟩ := F
  refine ⟨_, A.same W, ?_, by simpa using r⟩
  simp [Cell.setSlot, q, List.map_set]
theorem AJ.len {a : Addr} {vs : List Int64} (F : AJ Z h a vs) : vs.length < 2147483648 := by obtain ⟨c, q, r, t⟩ := F; exact t
theorem AJ.sz {vs : List Int64} {c : Cell} (q : c.slots.toList = vs.map Value.long) : c.slots.size = vs.length := by
  have := congrArg List.length q; simpa using this
theorem AJ.at {vs : List Int64} {c : Cell} {j : Nat} {x : Int64} (q : c.slots.toList = vs.map Value.long) (hv : vs[j]? = some x) : c.slots[j]? = some (Value.long x) := by
  rw [← Array.getElem?_toList, q]; simp [hv]
theorem AJ.inb {vs : List Int64} {c : Cell} {j : Int32} (q : c.slots.toList = vs.map Value.long) (hj : ¬ j < 0) (hl : j.toNatClampNeg < vs.length) : ¬ (j < 0 ∨ c.slots.size ≤ j.toNatClampNeg) := by
  have := AJ.sz q
  rw [this]
  rintro (r | r)
  · exact hj r
  · omega
theorem w_iaload (X : Stand p l e R s m args below meth c T locs cells slots) (hx : p.tables.exec = Jvm.exec) (hZ : Z.Warmed39 s.vm) {a : Addr} {vs : List Int32} {j : Int32} {v : Int32} (eT : T.heap = h) (F : AI Z h a .int vs) (hj : ¬ j < 0) (hv : vs[j.toNatClampNeg]? = some v) (hd : decode c.code pc = .ok (.iaload, 1)) (hp : pc + 1 = pc')
    (kk : Go p e below s cm sm Q T (mkF m pc' Ls (Value.int v :: St))) : Go p e below s cm sm Q T (mkF m pc Ls (.int j :: .ref a :: St)) := by
  subst hp
  obtain ⟨cl, A, q, r⟩ := F
  exact Go.st (fun t k => X.iaload hx (j := j) (v := Value.int v) (by rw [eT]; exact A.1) (State.isArrayOf_alike hZ.alike A.2.1) A.2.2 (AI.inb q hj (List.getElem?_eq_some_iff.mp hv).1) (AI.at q hv) (g := mkF m pc Ls (.int j :: .ref a :: St)) rfl rfl hd t k) kk
theorem w_baload (X : Stand p l e R s m args below meth c T locs cells slots) (hx : p.tables.exec = Jvm.exec) (hZ : Z.Warmed39 s.vm) {a : Addr} {vs : List Int32} {j : Int32} {v : Int32} (eT : T.heap = h) (F : AI Z h a .byte vs) (hj : ¬ j < 0) (hv : vs[j.toNatClampNeg]? = some v) (hd : decode c.code pc = .ok (.baload, 1)) (hp : pc + 1 = pc')
    (kk : Go p e below s cm sm Q T (mkF m pc' Ls (Value.int v :: St))) : Go p e below s cm sm Q T (mkF m pc Ls (.int j :: .ref a :: St)) := by
  subst hp
  obtain ⟨cl, A, q, r⟩ := F
  exact Go.st (fun t k => X.baloadBytes hx (j := j) (v := Value.int v) (by rw [eT]; exact A.1) (State.isArrayOf_alike hZ.alike A.2.1) A.2.2 (AI.inb q hj (List.getElem?_eq_some_iff.mp hv).1) (AI.at q hv) (g := mkF m pc Ls (.int j :: .ref a :: St)) rfl rfl hd t k) kk
theorem w_laload (X : Stand p l e R s m args below meth c T locs cells slots) (hx : p.tables.exec = Jvm.exec) (hZ : Z.Warmed39 s.vm) {a : Addr} {vs : List Int64} {j : Int32} {v : Int64} (eT : T.heap = h) (F : AJ Z h a vs) (hj : ¬ j < 0) (hv : vs[j.toNatClampNeg]? = some v) (hd : decode c.code pc = .ok (.laload, 1)) (hp : pc + 1 = pc')
    (kk : Go p e below s cm sm Q T (mkF m pc' Ls (Value.long v :: St))) : Go p e below s cm sm Q T (mkF m pc Ls (.int j :: .ref a :: St)) := by
  subst hp
  obtain ⟨cl, A, q, r⟩ := F
  exact Go.st (fun t k => X.laload hx (j := j) (v := Value.long v) (by rw [eT]; exact A.1) (State.isArrayOf_alike hZ.alike A.2.1) A.2.2 (AJ.inb q hj (List.getElem?_eq_some_iff.mp hv).1) (AJ.at q hv) (g := mkF m pc Ls (.int j :: .ref a :: St)) rfl rfl hd t k) kk
theorem w_iastore (X : Stand p l e R s m args below meth c T locs cells slots) (hx : p.tables.exec = Jvm.exec) (hZ : Z.Warmed39 s.vm) {a : Addr} {vs : List Int32} {j : Int32} {x : Int32} (eT : T.heap = h) (F : AI Z h a .int vs) (hj : ¬ j < 0) (hl : j.toNatClampNeg < vs.length) (hd : decode c.code pc = .ok (.iastore, 1)) (hp : pc + 1 = pc')
    (kk : ∀ (T' : State) (h' : Heap), Stand p l e R s m args below meth c T' (locs ++ [⟨a, j.toNatClampNeg⟩]) cells slots → T'.heap = h' → Wr h h' a j.toNatClampNeg (Value.int x) → AI Z h' a .int (vs.set j.toNatClampNeg x) → Go p e below s cm sm Q T' (mkF m pc' Ls St)) : Go p e below s cm sm Q T (mkF m pc Ls (Value.int x :: .int j :: .ref a :: St)) := by
  subst hp
  obtain ⟨cl, A, q, r⟩ := F
  obtain ⟨T1, h1, X1, e1, W1, st⟩ := RoadKit.stI X hx hZ eT A (j := j) (x := x) (AI.inb q hj hl) (g := mkF m pc Ls (Value.int x :: .int j :: .ref a :: St)) rfl rfl hd
  exact Go.st st (kk _ _ X1 e1 W1 (AI.wr ⟨cl, A, q, r⟩ W1))
theorem w_bastore (X : Stand p l e R s m args below meth c T locs cells slots) (hx : p.tables.exec = Jvm.exec) (hZ : Z.Warmed39 s.vm) {a : Addr} {vs : List Int32} {j : Int32} {x : Int32} (eT : T.heap = h) (F : AI Z h a .byte vs) (hj : ¬ j < 0) (hl : j.toNatClampNeg < vs.length) (hd : decode c.code pc = .ok (.bastore, 1)) (hp : pc + 1 = pc')
    (kk : ∀ (T' : State) (h' : Heap), Stand p l e R s m args below meth c T' (locs ++ [⟨a, j.toNatClampNeg⟩]) cells slots → T'.heap = h' → Wr h h' a j.toNatClampNeg (Value.int (nar .byte x)) → AI Z h' a .byte (vs.set j.toNatClampNeg (nar .byte x)) → Go p e below s cm sm Q T' (mkF m pc' Ls St)) : Go p e below s cm sm Q T (mkF m pc Ls (Value.int x :: .int j :: .ref a :: St)) := by
  subst hp
  obtain ⟨cl, A, q, r⟩ := F
  obtain ⟨T1, h1, X1, e1, W1, st⟩ := RoadKit.stB X hx hZ eT A (j := j) (x := x) (AI.inb q hj hl) (g := mkF m pc Ls (Value.int x :: .int j :: .ref a :: St)) rfl rfl hd
  exact Go.st st (kk _ _ X1 e1 W1 (AI.wr ⟨cl, A, q, r⟩ W1))
theorem w_lastore (X : Stand p l e R s m args below meth c T locs cells slots) (hx : p.tables.exec = Jvm.exec) (hZ : Z.Warmed39 s.vm) {a : Addr} {vs : List Int64} {j : Int32} {x : Int64} (eT : T.heap = h) (F : AJ Z h a vs) (hj : ¬ j < 0) (hl : j.toNatClampNeg < vs.length) (hd : decode c.code pc = .ok (.lastore, 1)) (hp : pc + 1 = pc')
    (kk : ∀ (T' : State) (h' : Heap), Stand p l e R s m args below meth c T' (locs ++ [⟨a, j.toNatClampNeg⟩]) cells slots → T'.heap = h' → Wr h h' a j.toNatClampNeg (Value.long x) → AJ Z h' a (vs.set j.toNatClampNeg x) → Go p e below s cm sm Q T' (mkF m pc' Ls St)) : Go p e below s cm sm Q T (mkF m pc Ls (Value.long x :: .int j :: .ref a :: St)) := by
  subst hp
  obtain ⟨cl, A, q, r⟩ := F
  obtain ⟨T1, h1, X1, e1, W1, st⟩ := RoadKit.stJ X hx hZ eT A (j := j) (x := x) (AJ.inb q hj hl) (g := mkF m pc Ls (Value.long x :: .int j :: .ref a :: St)) rfl rfl hd
  exact Go.st st (kk _ _ X1 e1 W1 (AJ.wr ⟨cl, A, q, r⟩ W1))
theorem w_alenI (X : Stand p l e R s m args below meth c T locs cells slots) (hx : p.tables.exec = Jvm.exec) (hZ : Z.Warmed39 s.vm) {a : Addr} {ty : FieldType} {vs : List Int32} {n : Int32} (eT : T.heap = h) (F : AI Z h a ty vs) (hn : vs.length.toInt32 = n) (hd : decode c.code pc = .ok (.arraylength, 1)) (hp : pc + 1 = pc')
    (kk : Go p e below s cm sm Q T (mkF m pc' Ls (.int n :: St))) : Go p e below s cm sm Q T (mkF m pc Ls (.ref a :: St)) := by
  subst hp hn
  obtain ⟨cl, A, q, r⟩ := F
  have hs := AI.sz q
  exact Go.st (fun t k => X.arraylength hx (by rw [eT]; exact A.1) (State.isArrayOf_alike hZ.alike A.2.1) (g := mkF m pc Ls (.ref a :: St)) rfl rfl hd t (by rw [hs]; exact k)) kk
theorem w_alenJ (X : Stand p l e R s m args below meth c T locs cells slots) (hx : p.tables.exec = Jvm.exec) (hZ : Z.Warmed39 s.vm) {a : Addr} {vs : List Int64} {n : Int32} (eT : T.heap = h) (F : AJ Z h a vs) (hn : vs.length.toInt32 = n) (hd : decode c.code pc = .ok (.arraylength, 1)) (hp : pc + 1 = pc')
    (kk : Go p e below s cm sm Q T (mkF m pc' Ls (.int n :: St))) : Go p e below s cm sm Q T (mkF m pc Ls (.ref a :: St)) := by
  subst hp hn
  obtain ⟨cl, A, q, r⟩ := F
  have hs := AJ.sz q
  exact Go.st (fun t k => X.arraylength hx (by rw [eT]; exact A.1) (State.isArrayOf_alike hZ.alike A.2.1) (g := mkF m pc Ls (.ref a :: St)) rfl rfl hd t (by rw [hs]; exact k)) kk
theorem w_newI (X : Stand p l e R s m args below meth c T locs cells slots) (hx : p.tables.exec = Jvm.exec) (hZ : Z.Warmed39 s.vm) {n : Int32} {cap : Nat} (eT : T.heap = h) (w : (Jvm.Cond.arrayClass .int).before a0 Z = true) (hn : ¬ n < 0) (hcap : n.toNatClampNeg ≤ cap) (hb : cap * 8 ≤ 536870912) (hc : cells + 1 ≤ R.cells) (hl : slots + cap ≤ R.slots) (hd : decode c.code pc = .ok (.newarray .int, 2)) (hp : pc + 2 = pc')
    (kk : ∀ (T' : State) (h' : Heap) (b : Addr), Stand p l e R s m args below meth c T' locs (cells + 1) (slots + cap) → T'.heap = h' → Ext h h' → b = h.size → AI Z h' b .int (List.replicate n.toNatClampNeg 0) → Go p e below s cm sm Q T' (mkF m pc' Ls (.ref b :: St))) : Go p e below s cm sm Q T (mkF m pc Ls (.int n :: St)) := by
  subst hp
  obtain ⟨T1, h1, k1, X1, e1, E1, A1, st⟩ := newP X hx hZ (aty := .int) w eT (g := mkF m pc Ls (.int n :: St)) rfl hd rfl hn (cap := cap) hcap hb hc hl
  exact Go.st st (kk _ _ _ X1 e1 E1 rfl (AI.new A1 rfl))
theorem w_newB (X : Stand p l e R s m args below meth c T locs cells slots) (hx : p.tables.exec = Jvm.exec) (hZ : Z.Warmed39 s.vm) {n : Int32} {cap : Nat} (eT : T.heap = h) (w : (Jvm.Cond.arrayClass .byte).before a0 Z = true) (hn : ¬ n < 0) (hcap : n.toNatClampNeg ≤ cap) (hb : cap * 8 ≤ 536870912) (hc : cells + 1 ≤ R.cells) (hl : slots + cap ≤ R.slots) (hd : decode c.code pc = .ok (.newarray .byte, 2)) (hp : pc + 2 = pc')
    (kk : ∀ (T' : State) (h' : Heap) (b : Addr), Stand p l e R s m args below meth c T' locs (cells + 1) (slots + cap) → T'.heap = h' → Ext h h' → b = h.size → AI Z h' b .byte (List.replicate n.toNatClampNeg 0) → Go p e below s cm sm Q T' (mkF m pc' Ls (.ref b :: St))) : Go p e below s cm sm Q T (mkF m pc Ls (.int n :: St)) := by
  subst hp
  obtain ⟨T1, h1, k1, X1, e1, E1, A1, st⟩ := newP X hx hZ (aty := .byte) w eT (g := mkF m pc Ls (.int n :: St)) rfl hd rfl hn (cap := cap) hcap hb hc hl
  exact Go.st st (kk _ _ _ X1 e1 E1 rfl (AI.new A1 rfl))
theorem w_newJ (X : Stand p l e R s m args below meth c T locs cells slots) (hx : p.tables.exec = Jvm.exec) (hZ : Z.Warmed39 s.vm) {n : Int32} {cap : Nat} (eT : T.heap = h) (w : (Jvm.Cond.arrayClass .long).before a0 Z = true) (hn : ¬ n < 0) (hcap : n.toNatClampNeg ≤ cap) (hb : cap * 8 ≤ 536870912) (hc : cells + 1 ≤ R.cells) (hl : slots + cap ≤ R.slots) (hd : decode c.code pc = .ok (.newarray .long, 2)) (hp : pc + 2 = pc')
    (kk : ∀ (T' : State) (h' : Heap) (b : Addr), Stand p l e R s m args below meth c T' locs (cells + 1) (slots + cap) → T'.heap = h' → Ext h h' → b = h.size → AJ Z h' b (List.replicate n.toNatClampNeg 0) → Go p e below s cm sm Q T' (mkF m pc' Ls (.ref b :: St))) : Go p e below s cm sm Q T (mkF m pc Ls (.int n :: St)) := by
  subst hp
  obtain ⟨T1, h1, k1, X1, e1, E1, A1, st⟩ := newP X hx hZ (aty := .long) w eT (g := mkF m pc Ls (.int n :: St)) rfl hd rfl hn (cap := cap) hcap hb hc hl
  exact Go.st st (kk _ _ _ X1 e1 E1 rfl (AJ.new A1))
theorem w_callP (X : Stand p l e R s m args below meth c T locs cells slots) (hx : p.tables.exec = Jvm.exec) (hZ : Z.Warmed39 s.vm) {own : String} {index : Nat} {y : MethodName} {bytes : ByteArray} {maxL : Nat} {ret : Option FieldType} {rm : Room} {W : Nat} {argsL rest : List Value} {Qc : Option Value → Heap → List Loc → Prop} {a : Addr} (hown : s.vm.findClass own = some m.cls) (eT : T.heap = h) (E : Exa Z h a y.cls) (C : Con l Z y bytes maxL ret rm (.ref a :: argsL).toArray h Qc) (w1 : (Jvm.Cond.methodLink own index y).before a0 Z = true) (w2 : (Jvm.Cond.instanceMethod y).before a0 Z = true) (ws : (Jvm.Cond.selects y.cls y y).before a0 Z = true) (wp : (Jvm.Cond.privateMethod y).before a0 Z = true) (w3 : (Jvm.Cond.initialized y.cls).before a0 Z = true) (w4 : (Jvm.Cond.code y bytes maxL ret).before a0 Z = true) (hy : y.cls ≠ "java/lang/invoke/MethodHandle" ∧ y.cls ≠ "java/lang/invoke/VarHandle")
    (hf : rm.frames + 1 ≤ R.frames) (hl : W + (maxL + 11) + rm.locals ≤ R.locals) (hc : cells + rm.cells ≤ R.cells) (hs : slots + rm.slots ≤ R.slots) (hsz : Ls.size = c.maxLocals) (hlen : ∀ sig, parseMethodDescriptor y.desc = some sig → argsL.length = sig.parameters.length) (hW : (rest.map fun v => v.category).sum ≤ W) (hst : St = argsL.reverse ++ .ref a :: rest) (hd : decode c.code pc = .ok (.invokevirtual index, 3)) (hp : pc + 3 = pc')
    (kk : ∀ (T' : State) (L : List Loc) (v : Option Value), Stand p l e R s m args below meth c T' (locs ++ L) (cells + rm.cells) (slots + rm.slots) → Qc v T'.heap L → Go p e below s cm sm Q T' (mkF m pc' Ls (v.toList ++ rest))) : Go p e below s cm sm Q T (mkF m pc Ls St) := by
  subst hp hst
  obtain ⟨cq, q1, q2⟩ := E.cell
  obtain ⟨v, _, ⟨T1, L1, k1, n1⟩, -, X1, ⟨Lc, hQ, l1, y1, z1⟩, st⟩ := X.privateBack hx (y := y) hown (mvT hZ w1) (mvT hZ w2) (mvT hZ ws) (Cond.privateMethod_at (mvP hZ wp (args := #[]))) (mvT hZ w4) hy (C.back (W := W) hZ w4 w3 hf hl) (g := mkF m pc Ls (argsL.reverse ++ .ref a :: rest)) rfl hsz (Steps.refl _) (a := a) (by rw [eT]; exact q1) q2 (argsL := argsL) (rest := rest) hlen rfl (by show 2 * 0 + _ ≤ _; rw [Nat.mul_zero, Nat.zero_add]; exact hW) hd (fun _ _ => ⟨rfl, eT, hc, hs⟩)
  dsimp only [Pt.U, Pt.locs, Pt.cells, Pt.slots] at X1 l1 y1 z1 st hQ
  subst l1 y1 z1
  exact Go.st (fun t q => st.trans q) (kk _ _ _ X1 hQ)
theorem w_ifnullNo (X : Stand p l e R s m args below meth c T locs cells slots) (hx : p.tables.exec = Jvm.exec) {o : Int} {b : Addr} (hd : decode c.code pc = .ok (.ifnull o, 3)) (hp : pc + 3 = pc') (kk : Go p e below s cm sm Q T (mkF m pc' Ls St)) : Go p e below s cm sm Q T (mkF m pc Ls (.ref b :: St)) := by
  subst hp
  exact Go.st (fun t q => XS.ifnullNo (g := mkF m pc Ls (.ref b :: St)) X.here hx rfl hd rfl q) kk
theorem own_len {n k : Nat} (h : n < 2147483648) (hk : k < 2147483648) (hc : ¬ n.toInt32 < k.toInt32) : k ≤ n := by
  rw [Int32.lt_iff_toInt_lt, len_toInt h, len_toInt hk] at hc
  omega
theorem own_len' {n k : Nat} (h : n < 2147483648) (hk : k < 2147483648) (hc : n.toInt32 < k.toInt32) : n < k := by
  rw [Int32.lt_iff_toInt_lt, len_toInt h, len_toInt hk] at hc
  omega
theorem own_getD {α : Type} {vs : List α} {j : Nat} {d : α} (h : j < vs.length) : vs[j]? = some (vs.getD j d) := by simp [h]
theorem own_nar0 : nar .boolean 0 = 0 := by decide
theorem own_nar1 : nar .boolean 1 = 1 := by decide
theorem w_up {c' s' : Nat} (X : Stand p l e R s m args below meth c T locs cells slots) (h1 : cells ≤ c') (h2 : slots ≤ s') : Stand p l e R s m args below meth c T locs c' s' :=
  ⟨X.admits, X.cas, X.clock, X.frames, X.room, X.hears, X.method, X.code, X.here, X.tail, X.warmed, X.limits, X.bytes, X.same.mono h1 h2⟩
end OwnKit
theorem pd_0 : parseMethodDescriptor "(I)I" = some ⟨[.int], some .int⟩ := by decide +kernel
theorem pd_1 : parseMethodDescriptor "(J)I" = some ⟨[.long], some .int⟩ := by decide +kernel
theorem pd_2 : parseMethodDescriptor "(JJ)J" = some ⟨[.long, .long], some .long⟩ := by decide +kernel
theorem pd_3 : parseMethodDescriptor "(J)J" = some ⟨[.long], some .long⟩ := by decide +kernel
theorem d3_0 : decode jdk_33_method_48_code 0 = .ok (.iload_n 0, 1) := by decide +kernel
theorem d3_1 : decode jdk_33_method_48_code 1 = .ok (.iconst (-1), 1) := by decide +kernel
theorem d3_2 : decode jdk_33_method_48_code 2 = .ok (.ixor, 1) := by decide +kernel
theorem d3_3 : decode jdk_33_method_48_code 3 = .ok (.iload_n 0, 1) := by decide +kernel
theorem d3_4 : decode jdk_33_method_48_code 4 = .ok (.iconst 1, 1) := by decide +kernel
theorem d3_5 : decode jdk_33_method_48_code 5 = .ok (.isub, 1) := by decide +kernel
theorem d3_6 : decode jdk_33_method_48_code 6 = .ok (.iand, 1) := by decide +kernel
theorem d3_7 : decode jdk_33_method_48_code 7 = .ok (.istore_n 0, 1) := by decide +kernel
theorem d3_8 : decode jdk_33_method_48_code 8 = .ok (.iload_n 0, 1) := by decide +kernel
theorem d3_9 : decode jdk_33_method_48_code 9 = .ok (.ifCond .gt 8, 3) := by decide +kernel
theorem d3_12 : decode jdk_33_method_48_code 12 = .ok (.iload_n 0, 1) := by decide +kernel
theorem d3_13 : decode jdk_33_method_48_code 13 = .ok (.bipush 32, 2) := by decide +kernel
theorem d3_15 : decode jdk_33_method_48_code 15 = .ok (.iand, 1) := by decide +kernel
theorem d3_16 : decode jdk_33_method_48_code 16 = .ok (.ireturn, 1) := by decide +kernel
theorem d3_17 : decode jdk_33_method_48_code 17 = .ok (.iconst 1, 1) := by decide +kernel
theorem d3_18 : decode jdk_33_method_48_code 18 = .ok (.istore_n 1, 1) := by decide +kernel
theorem d3_19 : decode jdk_33_method_48_code 19 = .ok (.iload_n 0, 1) := by decide +kernel
theorem d3_20 : decode jdk_33_method_48_code 20 = .ok (.ldc_w 264, 3) := by decide +kernel
theorem d3_23 : decode jdk_33_method_48_code 23 = .ok (.if_icmp .le 11, 3) := by decide +kernel
theorem d3_26 : decode jdk_33_method_48_code 26 = .ok (.iinc 1 16, 3) := by decide +kernel
theorem d3_29 : decode jdk_33_method_48_code 29 = .ok (.iload_n 0, 1) := by decide +kernel
theorem d3_30 : decode jdk_33_method_48_code 30 = .ok (.bipush 16, 2) := by decide +kernel
theorem d3_32 : decode jdk_33_method_48_code 32 = .ok (.iushr, 1) := by decide +kernel
theorem d3_33 : decode jdk_33_method_48_code 33 = .ok (.istore_n 0, 1) := by decide +kernel
theorem d3_34 : decode jdk_33_method_48_code 34 = .ok (.iload_n 0, 1) := by decide +kernel
theorem d3_35 : decode jdk_33_method_48_code 35 = .ok (.sipush 256, 3) := by decide +kernel
theorem d3_38 : decode jdk_33_method_48_code 38 = .ok (.if_icmp .le 11, 3) := by decide +kernel
theorem d3_41 : decode jdk_33_method_48_code 41 = .ok (.iinc 1 8, 3) := by decide +kernel
theorem d3_44 : decode jdk_33_method_48_code 44 = .ok (.iload_n 0, 1) := by decide +kernel
theorem d3_45 : decode jdk_33_method_48_code 45 = .ok (.bipush 8, 2) := by decide +kernel
theorem d3_47 : decode jdk_33_method_48_code 47 = .ok (.iushr, 1) := by decide +kernel
theorem d3_48 : decode jdk_33_method_48_code 48 = .ok (.istore_n 0, 1) := by decide +kernel
theorem d3_49 : decode jdk_33_method_48_code 49 = .ok (.iload_n 0, 1) := by decide +kernel
theorem d3_50 : decode jdk_33_method_48_code 50 = .ok (.bipush 16, 2) := by decide +kernel
theorem d3_52 : decode jdk_33_method_48_code 52 = .ok (.if_icmp .le 10, 3) := by decide +kernel
theorem d3_55 : decode jdk_33_method_48_code 55 = .ok (.iinc 1 4, 3) := by decide +kernel
theorem d3_58 : decode jdk_33_method_48_code 58 = .ok (.iload_n 0, 1) := by decide +kernel
theorem d3_59 : decode jdk_33_method_48_code 59 = .ok (.iconst 4, 1) := by decide +kernel
theorem d3_60 : decode jdk_33_method_48_code 60 = .ok (.iushr, 1) := by decide +kernel
theorem d3_61 : decode jdk_33_method_48_code 61 = .ok (.istore_n 0, 1) := by decide +kernel
theorem d3_62 : decode jdk_33_method_48_code 62 = .ok (.iload_n 0, 1) := by decide +kernel
theorem d3_63 : decode jdk_33_method_48_code 63 = .ok (.iconst 4, 1) := by decide +kernel
theorem d3_64 : decode jdk_33_method_48_code 64 = .ok (.if_icmp .le 10, 3) := by decide +kernel
theorem d3_67 : decode jdk_33_method_48_code 67 = .ok (.iinc 1 2, 3) := by decide +kernel
theorem d3_70 : decode jdk_33_method_48_code 70 = .ok (.iload_n 0, 1) := by decide +kernel
theorem d3_71 : decode jdk_33_method_48_code 71 = .ok (.iconst 2, 1) := by decide +kernel
theorem d3_72 : decode jdk_33_method_48_code 72 = .ok (.iushr, 1) := by decide +kernel
theorem d3_73 : decode jdk_33_method_48_code 73 = .ok (.istore_n 0, 1) := by decide +kernel
theorem d3_74 : decode jdk_33_method_48_code 74 = .ok (.iload_n 1, 1) := by decide +kernel
theorem d3_75 : decode jdk_33_method_48_code 75 = .ok (.iload_n 0, 1) := by decide +kernel
theorem d3_76 : decode jdk_33_method_48_code 76 = .ok (.iconst 1, 1) := by decide +kernel
theorem d3_77 : decode jdk_33_method_48_code 77 = .ok (.iushr, 1) := by decide +kernel
theorem d3_78 : decode jdk_33_method_48_code 78 = .ok (.iadd, 1) := by decide +kernel
theorem d3_79 : decode jdk_33_method_48_code 79 = .ok (.ireturn, 1) := by decide +kernel
def K3_74 (x0 : Int32) (x1 : Int32) : Int32 :=
  (x1 + (jushr x0 (1 : Int32)))
set_option maxRecDepth 65536 in
set_option maxHeartbeats 4000000 in
theorem bk3_74 {p : Program} {l : Launch} {e : Env} {s : State} {m : MethodId} {args : Array Value} {below : List Frame} {meth : Method} {c : Code} {T : State} {locs : List Loc} {Z : State} {a0 : Array Value} {h0 : Heap} {n0 : Nat} (X : Stand p l e ({ frames := 0, cells := 0, slots := 0, locals := 0 } : Room) s m args below meth c T locs 0 0) (hx : p.tables.exec = Jvm.exec) (hZ : Z.Warmed39 s.vm) (hw : ∀ d ∈ tables_1, d.before a0 Z = true) (hby : c.code = jdk_33_method_48_code) (hml : c.maxLocals = 2) (hown : s.vm.findClass "java/lang/Integer" = some m.cls) (hret : meth.sig.returnType = (some .int)) (hlk : meth.locks = false) (e0 : T.heap = h0) (N0 : Fr n0 locs) (x0 : Int32) (x1 : Int32) :
    Go p e below s 0 0 (QP (some (.int (K3_74 x0 x1))) h0 n0) T (mkF m 74 #[.val (.int x0), .val (.int x1)] []) := by
  rw [K3_74]
  refine w_iloadN X hx (hb hby d3_74) (pc' := 75) rfl rfl ?_
  refine w_iloadN X hx (hb hby d3_75) (pc' := 76) rfl rfl ?_
  refine w_iconst (v := 1) X hx (hb hby d3_76) (pc' := 77) rfl rfl ?_
  refine w_iushr X hx (hb hby d3_77) (pc' := 78) rfl ?_
  refine w_iadd X hx (hb hby d3_78) (pc' := 79) rfl ?_
  exact w_retI X hx hret hlk (hb hby d3_79) (by decide) (by decide) ⟨rfl, N0, e0⟩
def K3_62 (x0 : Int32) (x1 : Int32) : Int32 :=
  (if (4 : Int32) < x0 then (K3_74 (jushr x0 (2 : Int32)) (x1 + (2 : Int32)))
  else (K3_74 x0 x1))
set_option maxRecDepth 65536 in
set_option maxHeartbeats 4000000 in
theorem bk3_62 {p : Program} {l : Launch} {e : Env} {s : State} {m : MethodId} {args : Array Value} {below : List Frame} {meth : Method} {c : Code} {T : State} {locs : List Loc} {Z : State} {a0 : Array Value} {h0 : Heap} {n0 : Nat} (X : Stand p l e ({ frames := 0, cells := 0, slots := 0, locals := 0 } : Room) s m args below meth c T locs 0 0) (hx : p.tables.exec = Jvm.exec) (hZ : Z.Warmed39 s.vm) (hw : ∀ d ∈ tables_1, d.before a0 Z = true) (hby : c.code = jdk_33_method_48_code) (hml : c.maxLocals = 2) (hown : s.vm.findClass "java/lang/Integer" = some m.cls) (hret : meth.sig.returnType = (some .int)) (hlk : meth.locks = false) (e0 : T.heap = h0) (N0 : Fr n0 locs) (x0 : Int32) (x1 : Int32) :
    Go p e below s 0 0 (QP (some (.int (K3_62 x0 x1))) h0 n0) T (mkF m 62 #[.val (.int x0), .val (.int x1)] []) := by
  rw [K3_62]
  refine w_iloadN X hx (hb hby d3_62) (pc' := 63) rfl rfl ?_
  refine w_iconst (v := 4) X hx (hb hby d3_63) (pc' := 64) rfl rfl ?_
  refine w_icmp_le X hx (hb hby d3_64) (pf := 67) (pt := 74) rfl (by decide) (by decide) (fun hc64 => ?_) (fun hc64 => ?_)
  · rw [if_neg hc64]
    exact bk3_74 X hx hZ hw hby hml hown hret hlk e0 N0 x0 x1
  · rw [if_pos hc64]
    refine w_iinc (Ls' := #[.val (.int x0), .val (.int (x1 + (2 : Int32)))]) (w := (2 : Int32)) X hx (hb hby d3_67) (pc' := 70) rfl rfl rfl rfl ?_
    refine w_iloadN X hx (hb hby d3_70) (pc' := 71) rfl rfl ?_
    refine w_iconst (v := 2) X hx (hb hby d3_71) (pc' := 72) rfl rfl ?_
    refine w_iushr X hx (hb hby d3_72) (pc' := 73) rfl ?_
    refine w_istoreN (Ls' := #[.val (.int (jushr x0 (2 : Int32))), .val (.int (x1 + (2 : Int32)))]) X hx (hb hby d3_73) (pc' := 74) rfl rfl ?_
    exact bk3_74 X hx hZ hw hby hml hown hret hlk e0 N0 (jushr x0 (2 : Int32)) (x1 + (2 : Int32))
def K3_49 (x0 : Int32) (x1 : Int32) : Int32 :=
  (if (16 : Int32) < x0 then (K3_62 (jushr x0 (4 : Int32)) (x1 + (4 : Int32)))
  else (K3_62 x0 x1))
set_option maxRecDepth 65536 in
set_option maxHeartbeats 4000000 in
theorem bk3_49 {p : Program} {l : Launch} {e : Env} {s : State} {m : MethodId} {args : Array Value} {below : List Frame} {meth : Method} {c : Code} {T : State} {locs : List Loc} {Z : State} {a0 : Array Value} {h0 : Heap} {n0 : Nat} (X : Stand p l e ({ frames := 0, cells := 0, slots := 0, locals := 0 } : Room) s m args below meth c T locs 0 0) (hx : p.tables.exec = Jvm.exec) (hZ : Z.Warmed39 s.vm) (hw : ∀ d ∈ tables_1, d.before a0 Z = true) (hby : c.code = jdk_33_method_48_code) (hml : c.maxLocals = 2) (hown : s.vm.findClass "java/lang/Integer" = some m.cls) (hret : meth.sig.returnType = (some .int)) (hlk : meth.locks = false) (e0 : T.heap = h0) (N0 : Fr n0 locs) (x0 : Int32) (x1 : Int32) :
    Go p e below s 0 0 (QP (some (.int (K3_49 x0 x1))) h0 n0) T (mkF m 49 #[.val (.int x0), .val (.int x1)] []) := by
  rw [K3_49]
  refine w_iloadN X hx (hb hby d3_49) (pc' := 50) rfl rfl ?_
  refine w_bipush (v := 16) X hx (hb hby d3_50) (pc' := 52) rfl rfl ?_
  refine w_icmp_le X hx (hb hby d3_52) (pf := 55) (pt := 62) rfl (by decide) (by decide) (fun hc52 => ?_) (fun hc52 => ?_)
  · rw [if_neg hc52]
    exact bk3_62 X hx hZ hw hby hml hown hret hlk e0 N0 x0 x1
  · rw [if_pos hc52]
    refine w_iinc (Ls' := #[.val (.int x0), .val (.int (x1 + (4 : Int32)))]) (w := (4 : Int32)) X hx (hb hby d3_55) (pc' := 58) rfl rfl rfl rfl ?_
    refine w_iloadN X hx (hb hby d3_58) (pc' := 59) rfl rfl ?_
    refine w_iconst (v := 4) X hx (hb hby d3_59) (pc' := 60) rfl rfl ?_
    refine w_iushr X hx (hb hby d3_60) (pc' := 61) rfl ?_
    refine w_istoreN (Ls' := #[.val (.int (jushr x0 (4 : Int32))), .val (.int (x1 + (4 : Int32)))]) X hx (hb hby d3_61) (pc' := 62) rfl rfl ?_
    exact bk3_62 X hx hZ hw hby hml hown hret hlk e0 N0 (jushr x0 (4 : Int32)) (x1 + (4 : Int32))
def K3_34 (x0 : Int32) (x1 : Int32) : Int32 :=
  (if (256 : Int32) < x0 then (K3_49 (jushr x0 (8 : Int32)) (x1 + (8 : Int32)))
  else (K3_49 x0 x1))
set_option maxRecDepth 65536 in
set_option maxHeartbeats 4000000 in
theorem bk3_34 {p : Program} {l : Launch} {e : Env} {s : State} {m : MethodId} {args : Array Value} {below : List Frame} {meth : Method} {c : Code} {T : State} {locs : List Loc} {Z : State} {a0 : Array Value} {h0 : Heap} {n0 : Nat} (X : Stand p l e ({ frames := 0, cells := 0, slots := 0, locals := 0 } : Room) s m args below meth c T locs 0 0) (hx : p.tables.exec = Jvm.exec) (hZ : Z.Warmed39 s.vm) (hw : ∀ d ∈ tables_1, d.before a0 Z = true) (hby : c.code = jdk_33_method_48_code) (hml : c.maxLocals = 2) (hown : s.vm.findClass "java/lang/Integer" = some m.cls) (hret : meth.sig.returnType = (some .int)) (hlk : meth.locks = false) (e0 : T.heap = h0) (N0 : Fr n0 locs) (x0 : Int32) (x1 : Int32) :
    Go p e below s 0 0 (QP (some (.int (K3_34 x0 x1))) h0 n0) T (mkF m 34 #[.val (.int x0), .val (.int x1)] []) := by
  rw [K3_34]
  refine w_iloadN X hx (hb hby d3_34) (pc' := 35) rfl rfl ?_
  refine w_sipush (v := 256) X hx (hb hby d3_35) (pc' := 38) rfl rfl ?_
  refine w_icmp_le X hx (hb hby d3_38) (pf := 41) (pt := 49) rfl (by decide) (by decide) (fun hc38 => ?_) (fun hc38 => ?_)
  · rw [if_neg hc38]
    exact bk3_49 X hx hZ hw hby hml hown hret hlk e0 N0 x0 x1
  · rw [if_pos hc38]
    refine w_iinc (Ls' := #[.val (.int x0), .val (.int (x1 + (8 : Int32)))]) (w := (8 : Int32)) X hx (hb hby d3_41) (pc' := 44) rfl rfl rfl rfl ?_
    refine w_iloadN X hx (hb hby d3_44) (pc' := 45) rfl rfl ?_
    refine w_bipush (v := 8) X hx (hb hby d3_45) (pc' := 47) rfl rfl ?_
    refine w_iushr X hx (hb hby d3_47) (pc' := 48) rfl ?_
    refine w_istoreN (Ls' := #[.val (.int (jushr x0 (8 : Int32))), .val (.int (x1 + (8 : Int32)))]) X hx (hb hby d3_48) (pc' := 49) rfl rfl ?_
    exact bk3_49 X hx hZ hw hby hml hown hret hlk e0 N0 (jushr x0 (8 : Int32)) (x1 + (8 : Int32))
def K3_0 (x0 : Int32) : Int32 :=
  (if (0 : Int32) < ((x0 ^^^ (-1 : Int32)) &&& (x0 - (1 : Int32))) then (if (65536 : Int32) < ((x0 ^^^ (-1 : Int32)) &&& (x0 - (1 : Int32))) then (K3_34 (jushr ((x0 ^^^ (-1 : Int32)) &&& (x0 - (1 : Int32))) (16 : Int32)) (17 : Int32))
   else (K3_34 ((x0 ^^^ (-1 : Int32)) &&& (x0 - (1 : Int32))) (1 : Int32)))
  else (((x0 ^^^ (-1 : Int32)) &&& (x0 - (1 : Int32))) &&& (32 : Int32)))
set_option maxRecDepth 65536 in
set_option maxHeartbeats 4000000 in
theorem bk3_0 {p : Program} {l : Launch} {e : Env} {s : State} {m : MethodId} {args : Array Value} {below : List Frame} {meth : Method} {c : Code} {T : State} {locs : List Loc} {Z : State} {a0 : Array Value} {h0 : Heap} {n0 : Nat} (X : Stand p l e ({ frames := 0, cells := 0, slots := 0, locals := 0 } : Room) s m args below meth c T locs 0 0) (hx : p.tables.exec = Jvm.exec) (hZ : Z.Warmed39 s.vm) (hw : ∀ d ∈ tables_1, d.before a0 Z = true) (hby : c.code = jdk_33_method_48_code) (hml : c.maxLocals = 2) (hown : s.vm.findClass "java/lang/Integer" = some m.cls) (hret : meth.sig.returnType = (some .int)) (hlk : meth.locks = false) (e0 : T.heap = h0) (N0 : Fr n0 locs) (x0 : Int32) :
    Go p e below s 0 0 (QP (some (.int (K3_0 x0))) h0 n0) T (mkF m 0 #[.val (.int x0), .unset] []) := by
  rw [K3_0]
  refine w_iloadN X hx (hb hby d3_0) (pc' := 1) rfl rfl ?_
  refine w_iconst (v := -1) X hx (hb hby d3_1) (pc' := 2) rfl rfl ?_
  refine w_ixor X hx (hb hby d3_2) (pc' := 3) rfl ?_
  refine w_iloadN X hx (hb hby d3_3) (pc' := 4) rfl rfl ?_
  refine w_iconst (v := 1) X hx (hb hby d3_4) (pc' := 5) rfl rfl ?_
  refine w_isub X hx (hb hby d3_5) (pc' := 6) rfl ?_
  refine w_iand X hx (hb hby d3_6) (pc' := 7) rfl ?_
  refine w_istoreN (Ls' := #[.val (.int ((x0 ^^^ (-1 : Int32)) &&& (x0 - (1 : Int32)))), .unset]) X hx (hb hby d3_7) (pc' := 8) rfl rfl ?_
  refine w_iloadN X hx (hb hby d3_8) (pc' := 9) rfl rfl ?_
  refine w_if_gt X hx (hb hby d3_9) (pf := 12) (pt := 17) rfl (by decide) (by decide) (fun hc9 => ?_) (fun hc9 => ?_)
  · rw [if_pos hc9]
    refine w_iconst (v := 1) X hx (hb hby d3_17) (pc' := 18) rfl rfl ?_
    refine w_istoreN (Ls' := #[.val (.int ((x0 ^^^ (-1 : Int32)) &&& (x0 - (1 : Int32)))), .val (.int (1 : Int32))]) X hx (hb hby d3_18) (pc' := 19) rfl rfl ?_
    refine w_iloadN X hx (hb hby d3_19) (pc' := 20) rfl rfl ?_
    refine w_ldcw X hx hZ hown (hw _ (List.mem_of_getElem? (i := 15) rfl)) (hb hby d3_20) (pc' := 23) rfl ?_
    refine w_icmp_le X hx (hb hby d3_23) (pf := 26) (pt := 34) rfl (by decide) (by decide) (fun hc23 => ?_) (fun hc23 => ?_)
    · rw [if_neg hc23]
      exact bk3_34 X hx hZ hw hby hml hown hret hlk e0 N0 ((x0 ^^^ (-1 : Int32)) &&& (x0 - (1 : Int32))) (1 : Int32)
    · rw [if_pos hc23]
      refine w_iinc (Ls' := #[.val (.int ((x0 ^^^ (-1 : Int32)) &&& (x0 - (1 : Int32)))), .val (.int ((1 : Int32) + (16 : Int32)))]) (w := (16 : Int32)) X hx (hb hby d3_26) (pc' := 29) rfl rfl rfl rfl ?_
      rw [show ((1 : Int32) + (16 : Int32)) = (17 : Int32) from by decide]
      refine w_iloadN X hx (hb hby d3_29) (pc' := 30) rfl rfl ?_
      refine w_bipush (v := 16) X hx (hb hby d3_30) (pc' := 32) rfl rfl ?_
      refine w_iushr X hx (hb hby d3_32) (pc' := 33) rfl ?_
      refine w_istoreN (Ls' := #[.val (.int (jushr ((x0 ^^^ (-1 : Int32)) &&& (x0 - (1 : Int32))) (16 : Int32))), .val (.int (17 : Int32))]) X hx (hb hby d3_33) (pc' := 34) rfl rfl ?_
      exact bk3_34 X hx hZ hw hby hml hown hret hlk e0 N0 (jushr ((x0 ^^^ (-1 : Int32)) &&& (x0 - (1 : Int32))) (16 : Int32)) (17 : Int32)
  · rw [if_neg hc9]
    refine w_iloadN X hx (hb hby d3_12) (pc' := 13) rfl rfl ?_
    refine w_bipush (v := 32) X hx (hb hby d3_13) (pc' := 15) rfl rfl ?_
    refine w_iand X hx (hb hby d3_15) (pc' := 16) rfl ?_
    exact w_retI X hx hret hlk (hb hby d3_16) (by decide) (by decide) ⟨rfl, N0, e0⟩
theorem ef_3 (m : MethodId) (x0 : Int32) : entryFrame m #[(.int x0)] 2 = mkF m 0 #[.val (.int x0), .unset] [] := by first | (simp [entryFrame, mkF, argsToLocals, Value.category]; done) | rfl
theorem rm3 (l : Launch) (Z : State) (a0 : Array Value) (hw : ∀ d ∈ tables_1, d.before a0 Z = true) (x0 : Int32) (h0 : Heap) (n0 : Nat) :
    Con l Z (⟨"java/lang/Integer", "numberOfTrailingZeros", "(I)I"⟩ : MethodName) jdk_33_method_48_code 2 (some .int) ({ frames := 0, cells := 0, slots := 0, locals := 0 } : Room) #[(.int x0)] h0 (QP (some (.int (K3_0 x0))) h0 n0) := by
  refine Con.of (plainFor_of_name (by first | (simp [plainName, overriddenIn]; done) | decide +kernel)) ?_
  intro p e s m below meth c T X hx hZ hby hml hown hnm hret hlk e0
  rw [ef_3]
  exact bk3_0 X hx hZ hw hby hml hown hret hlk e0 (Fr.nil n0) x0
theorem d2_0 : decode jdk_35_method_49_code 0 = .ok (.lload_n 0, 1) := by decide +kernel
theorem d2_1 : decode jdk_35_method_49_code 1 = .ok (.l2i, 1) := by decide +kernel
theorem d2_2 : decode jdk_35_method_49_code 2 = .ok (.istore_n 2, 1) := by decide +kernel
theorem d2_3 : decode jdk_35_method_49_code 3 = .ok (.iload_n 2, 1) := by decide +kernel
theorem d2_4 : decode jdk_35_method_49_code 4 = .ok (.ifCond .ne 17, 3) := by decide +kernel
theorem d2_7 : decode jdk_35_method_49_code 7 = .ok (.bipush 32, 2) := by decide +kernel
theorem d2_9 : decode jdk_35_method_49_code 9 = .ok (.lload_n 0, 1) := by decide +kernel
theorem d2_10 : decode jdk_35_method_49_code 10 = .ok (.bipush 32, 2) := by decide +kernel
theorem d2_12 : decode jdk_35_method_49_code 12 = .ok (.lushr, 1) := by decide +kernel
theorem d2_13 : decode jdk_35_method_49_code 13 = .ok (.l2i, 1) := by decide +kernel
theorem d2_14 : decode jdk_35_method_49_code 14 = .ok (.invokestatic 311, 3) := by decide +kernel
theorem d2_17 : decode jdk_35_method_49_code 17 = .ok (.iadd, 1) := by decide +kernel
theorem d2_18 : decode jdk_35_method_49_code 18 = .ok (.goto 7, 3) := by decide +kernel
theorem d2_21 : decode jdk_35_method_49_code 21 = .ok (.iload_n 2, 1) := by decide +kernel
theorem d2_22 : decode jdk_35_method_49_code 22 = .ok (.invokestatic 311, 3) := by decide +kernel
theorem d2_25 : decode jdk_35_method_49_code 25 = .ok (.ireturn, 1) := by decide +kernel
def K2_0 (x0 : Int64) : Int32 :=
  (if x0.toInt32 = (0 : Int32) then ((32 : Int32) + (K3_0 (jlushr x0 (32 : Int32)).toInt32))
  else (K3_0 x0.toInt32))
set_option maxRecDepth 65536 in
set_option maxHeartbeats 4000000 in
theorem bk2_0 {p : Program} {l : Launch} {e : Env} {s : State} {m : MethodId} {args : Array Value} {below : List Frame} {meth : Method} {c : Code} {T : State} {locs : List Loc} {Z : State} {a0 : Array Value} {h0 : Heap} {n0 : Nat} (X : Stand p l e ({ frames := 1, cells := 0, slots := 0, locals := 19 } : Room) s m args below meth c T locs 0 0) (hx : p.tables.exec = Jvm.exec) (hZ : Z.Warmed39 s.vm) (hw : ∀ d ∈ tables_1, d.before a0 Z = true) (hby : c.code = jdk_35_method_49_code) (hml : c.maxLocals = 3) (hown : s.vm.findClass "java/lang/Long" = some m.cls) (hret : meth.sig.returnType = (some .int)) (hlk : meth.locks = false) (e0 : T.heap = h0) (N0 : Fr n0 locs) (x0 : Int64) :
    Go p e below s 0 0 (QP (some (.int (K2_0 x0))) h0 n0) T (mkF m 0 #[.val (.long x0), .second, .unset] []) := by
  rw [K2_0]
  refine w_lloadN X hx (hb hby d2_0) (pc' := 1) rfl rfl ?_
  refine w_l2i X hx (hb hby d2_1) (pc' := 2) rfl ?_
  refine w_istoreN (Ls' := #[.val (.long x0), .second, .val (.int x0.toInt32)]) X hx (hb hby d2_2) (pc' := 3) rfl rfl ?_
  refine w_iloadN X hx (hb hby d2_3) (pc' := 4) rfl rfl ?_
  refine w_if_ne X hx (hb hby d2_4) (pf := 7) (pt := 21) rfl (by decide) (by decide) (fun hc4 => ?_) (fun hc4 => ?_)
  · rw [if_neg hc4]
    refine w_iloadN X hx (hb hby d2_21) (pc' := 22) rfl rfl ?_
    refine w_callS (argsL := [(.int x0.toInt32)]) (rest := []) X hx hZ hown e0 (rm3 l Z a0 hw x0.toInt32 h0 n0) (hw _ (List.mem_of_getElem? (i := 11) rfl)) (hw _ (List.mem_of_getElem? (i := 12) rfl)) (hw _ (List.mem_of_getElem? (i := 13) rfl)) (hw _ (List.mem_of_getElem? (i := 14) rfl)) (by decide) (by decide) (W := 0) (by decide) (by decide) (by decide) (by rw [hml]; rfl) (lenOf pd_0 rfl) (Nat.le_refl _) rfl (hb hby d2_22) (pc' := 25) rfl (fun T1 L1 v1 X1 hQ1 => ?_)
    obtain ⟨rfl, N1q, e1⟩ := hQ1
    have N1 := Fr.app N0 N1q
    have X1 : Stand p l e ({ frames := 1, cells := 0, slots := 0, locals := 19 } : Room) s m _ below meth c T1 _ 0 0 := X1
    show Go p e below s 0 0 _ T1 (mkF m 25 #[.val (.long x0), .second, .val (.int x0.toInt32)] [(.int (K3_0 x0.toInt32))])
    exact w_retI X1 hx hret hlk (hb hby d2_25) (by decide) (by decide) ⟨rfl, N1, e1⟩
  · rw [if_pos hc4]
    refine w_bipush (v := 32) X hx (hb hby d2_7) (pc' := 9) rfl rfl ?_
    refine w_lloadN X hx (hb hby d2_9) (pc' := 10) rfl rfl ?_
    refine w_bipush (v := 32) X hx (hb hby d2_10) (pc' := 12) rfl rfl ?_
    refine w_lushr X hx (hb hby d2_12) (pc' := 13) rfl ?_
    refine w_l2i X hx (hb hby d2_13) (pc' := 14) rfl ?_
    refine w_callS (argsL := [(.int (jlushr x0 (32 : Int32)).toInt32)]) (rest := [(.int (32 : Int32))]) X hx hZ hown e0 (rm3 l Z a0 hw (jlushr x0 (32 : Int32)).toInt32 h0 n0) (hw _ (List.mem_of_getElem? (i := 11) rfl)) (hw _ (List.mem_of_getElem? (i := 12) rfl)) (hw _ (List.mem_of_getElem? (i := 13) rfl)) (hw _ (List.mem_of_getElem? (i := 14) rfl)) (by decide) (by decide) (W := 1) (by decide) (by decide) (by decide) (by rw [hml]; rfl) (lenOf pd_0 rfl) (Nat.le_refl _) rfl (hb hby d2_14) (pc' := 17) rfl (fun T2 L2 v2 X2 hQ2 => ?_)
    obtain ⟨rfl, N2q, e2⟩ := hQ2
    have N2 := Fr.app N0 N2q
    have X2 : Stand p l e ({ frames := 1, cells := 0, slots := 0, locals := 19 } : Room) s m _ below meth c T2 _ 0 0 := X2
    show Go p e below s 0 0 _ T2 (mkF m 17 #[.val (.long x0), .second, .val (.int x0.toInt32)] [(.int (K3_0 (jlushr x0 (32 : Int32)).toInt32)), (.int (32 : Int32))])
    refine w_iadd X2 hx (hb hby d2_17) (pc' := 18) rfl ?_
    refine w_goto X2 hx (hb hby d2_18) (pc' := 25) (by decide) (by decide) ?_
    exact w_retI X2 hx hret hlk (hb hby d2_25) (by decide) (by decide) ⟨rfl, N2, e2⟩
theorem ef_2 (m : MethodId) (x0 : Int64) : entryFrame m #[(.long x0)] 3 = mkF m 0 #[.val (.long x0), .second, .unset] [] := by first | (simp [entryFrame, mkF, argsToLocals, Value.category]; done) | rfl
theorem rm2 (l : Launch) (Z : State) (a0 : Array Value) (hw : ∀ d ∈ tables_1, d.before a0 Z = true) (x0 : Int64) (h0 : Heap) (n0 : Nat) :
    Con l Z (⟨"java/lang/Long", "numberOfTrailingZeros", "(J)I"⟩ : MethodName) jdk_35_method_49_code 3 (some .int) ({ frames := 1, cells := 0, slots := 0, locals := 19 } : Room) #[(.long x0)] h0 (QP (some (.int (K2_0 x0))) h0 n0) := by
  refine Con.of (plainFor_of_name (by first | (simp [plainName, overriddenIn]; done) | decide +kernel)) ?_
  intro p e s m below meth c T X hx hZ hby hml hown hnm hret hlk e0
  rw [ef_2]
  exact bk2_0 X hx hZ hw hby hml hown hret hlk e0 (Fr.nil n0) x0
theorem d4_0 : decode jdk_29_method_70_code 0 = .ok (.lload_n 0, 1) := by decide +kernel
theorem d4_1 : decode jdk_29_method_70_code 1 = .ok (.lload_n 2, 1) := by decide +kernel
theorem d4_2 : decode jdk_29_method_70_code 2 = .ok (.lcmp, 1) := by decide +kernel
theorem d4_3 : decode jdk_29_method_70_code 3 = .ok (.ifCond .gt 7, 3) := by decide +kernel
theorem d4_6 : decode jdk_29_method_70_code 6 = .ok (.lload_n 0, 1) := by decide +kernel
theorem d4_7 : decode jdk_29_method_70_code 7 = .ok (.goto 4, 3) := by decide +kernel
theorem d4_10 : decode jdk_29_method_70_code 10 = .ok (.lload_n 2, 1) := by decide +kernel
theorem d4_11 : decode jdk_29_method_70_code 11 = .ok (.lreturn, 1) := by decide +kernel
def K4_0 (x0 : Int64) (x1 : Int64) : Int64 :=
  (if x1 < x0 then x1
  else x0)
set_option maxRecDepth 65536 in
set_option maxHeartbeats 4000000 in
theorem bk4_0 {p : Program} {l : Launch} {e : Env} {s : State} {m : MethodId} {args : Array Value} {below : List Frame} {meth : Method} {c : Code} {T : State} {locs : List Loc} {Z : State} {a0 : Array Value} {h0 : Heap} {n0 : Nat} (X : Stand p l e ({ frames := 0, cells := 0, slots := 0, locals := 0 } : Room) s m args below meth c T locs 0 0) (hx : p.tables.exec = Jvm.exec) (hZ : Z.Warmed39 s.vm) (hw : ∀ d ∈ tables_1, d.before a0 Z = true) (hby : c.code = jdk_29_method_70_code) (hml : c.maxLocals = 4) (hown : s.vm.findClass "java/lang/Math" = some m.cls) (hret : meth.sig.returnType = (some .long)) (hlk : meth.locks = false) (e0 : T.heap = h0) (N0 : Fr n0 locs) (x0 : Int64) (x1 : Int64) :
    Go p e below s 0 0 (QP (some (.long (K4_0 x0 x1))) h0 n0) T (mkF m 0 #[.val (.long x0), .second, .val (.long x1), .second] []) := by
  rw [K4_0]
  refine w_lloadN X hx (hb hby d4_0) (pc' := 1) rfl rfl ?_
  refine w_lloadN X hx (hb hby d4_1) (pc' := 2) rfl rfl ?_
  refine w_lcmp X hx (hb hby d4_2) (pc' := 3) rfl ?_
  refine w_ifL_gt X hx (hb hby d4_3) (pf := 6) (pt := 10) rfl (by decide) (by decide) (fun hc3 => ?_) (fun hc3 => ?_)
  · rw [if_pos hc3]
    refine w_lloadN X hx (hb hby d4_10) (pc' := 11) rfl rfl ?_
    exact w_retJ X hx hret hlk (hb hby d4_11) (by decide) (by decide) ⟨rfl, N0, e0⟩
  · rw [if_neg hc3]
    refine w_lloadN X hx (hb hby d4_6) (pc' := 7) rfl rfl ?_
    refine w_goto X hx (hb hby d4_7) (pc' := 11) (by decide) (by decide) ?_
    exact w_retJ X hx hret hlk (hb hby d4_11) (by decide) (by decide) ⟨rfl, N0, e0⟩
theorem ef_4 (m : MethodId) (x0 : Int64) (x1 : Int64) : entryFrame m #[(.long x0), (.long x1)] 4 = mkF m 0 #[.val (.long x0), .second, .val (.long x1), .second] [] := by first | (simp [entryFrame, mkF, argsToLocals, Value.category]; done) | rfl
theorem rm4 (l : Launch) (Z : State) (a0 : Array Value) (hw : ∀ d ∈ tables_1, d.before a0 Z = true) (x0 : Int64) (x1 : Int64) (h0 : Heap) (n0 : Nat) :
    Con l Z (⟨"java/lang/Math", "min", "(JJ)J"⟩ : MethodName) jdk_29_method_70_code 4 (some .long) ({ frames := 0, cells := 0, slots := 0, locals := 0 } : Room) #[(.long x0), (.long x1)] h0 (QP (some (.long (K4_0 x0 x1))) h0 n0) := by
  refine Con.of (Jvm.Free.JP.mathPlain rfl (by decide +kernel)) ?_
  intro p e s m below meth c T X hx hZ hby hml hown hnm hret hlk e0
  rw [ef_4]
  exact bk4_0 X hx hZ hw hby hml hown hret hlk e0 (Fr.nil n0) x0 x1
theorem d5_0 : decode jdk_29_method_61_code 0 = .ok (.lload_n 0, 1) := by decide +kernel
theorem d5_1 : decode jdk_29_method_61_code 1 = .ok (.lconst 0, 1) := by decide +kernel
theorem d5_2 : decode jdk_29_method_61_code 2 = .ok (.lcmp, 1) := by decide +kernel
theorem d5_3 : decode jdk_29_method_61_code 3 = .ok (.ifCond .ge 8, 3) := by decide +kernel
theorem d5_6 : decode jdk_29_method_61_code 6 = .ok (.lload_n 0, 1) := by decide +kernel
theorem d5_7 : decode jdk_29_method_61_code 7 = .ok (.lneg, 1) := by decide +kernel
theorem d5_8 : decode jdk_29_method_61_code 8 = .ok (.goto 4, 3) := by decide +kernel
theorem d5_11 : decode jdk_29_method_61_code 11 = .ok (.lload_n 0, 1) := by decide +kernel
theorem d5_12 : decode jdk_29_method_61_code 12 = .ok (.lreturn, 1) := by decide +kernel
def K5_0 (x0 : Int64) : Int64 :=
  (if x0 < (0 : Int64) then (-x0)
  else x0)
set_option maxRecDepth 65536 in
set_option maxHeartbeats 4000000 in
theorem bk5_0 {p : Program} {l : Launch} {e : Env} {s : State} {m : MethodId} {args : Array Value} {below : List Frame} {meth : Method} {c : Code} {T : State} {locs : List Loc} {Z : State} {a0 : Array Value} {h0 : Heap} {n0 : Nat} (X : Stand p l e ({ frames := 0, cells := 0, slots := 0, locals := 0 } : Room) s m args below meth c T locs 0 0) (hx : p.tables.exec = Jvm.exec) (hZ : Z.Warmed39 s.vm) (hw : ∀ d ∈ tables_1, d.before a0 Z = true) (hby : c.code = jdk_29_method_61_code) (hml : c.maxLocals = 2) (hown : s.vm.findClass "java/lang/Math" = some m.cls) (hret : meth.sig.returnType = (some .long)) (hlk : meth.locks = false) (e0 : T.heap = h0) (N0 : Fr n0 locs) (x0 : Int64) :
    Go p e below s 0 0 (QP (some (.long (K5_0 x0))) h0 n0) T (mkF m 0 #[.val (.long x0), .second] []) := by
  rw [K5_0]
  refine w_lloadN X hx (hb hby d5_0) (pc' := 1) rfl rfl ?_
  refine w_lconst (v := 0) X hx (hb hby d5_1) (pc' := 2) rfl rfl ?_
  refine w_lcmp X hx (hb hby d5_2) (pc' := 3) rfl ?_
  refine w_ifL_ge X hx (hb hby d5_3) (pf := 6) (pt := 11) rfl (by decide) (by decide) (fun hc3 => ?_) (fun hc3 => ?_)
  · rw [if_neg hc3]
    refine w_lloadN X hx (hb hby d5_11) (pc' := 12) rfl rfl ?_
    exact w_retJ X hx hret hlk (hb hby d5_12) (by decide) (by decide) ⟨rfl, N0, e0⟩
  · rw [if_pos hc3]
    refine w_lloadN X hx (hb hby d5_6) (pc' := 7) rfl rfl ?_
    refine w_lneg X hx (hb hby d5_7) (pc' := 8) rfl ?_
    refine w_goto X hx (hb hby d5_8) (pc' := 12) (by decide) (by decide) ?_
    exact w_retJ X hx hret hlk (hb hby d5_12) (by decide) (by decide) ⟨rfl, N0, e0⟩
theorem ef_5 (m : MethodId) (x0 : Int64) : entryFrame m #[(.long x0)] 2 = mkF m 0 #[.val (.long x0), .second] [] := by first | (simp [entryFrame, mkF, argsToLocals, Value.category]; done) | rfl
theorem rm5 (l : Launch) (Z : State) (a0 : Array Value) (hw : ∀ d ∈ tables_1, d.before a0 Z = true) (x0 : Int64) (h0 : Heap) (n0 : Nat) :
    Con l Z (⟨"java/lang/Math", "abs", "(J)J"⟩ : MethodName) jdk_29_method_61_code 2 (some .long) ({ frames := 0, cells := 0, slots := 0, locals := 0 } : Room) #[(.long x0)] h0 (QP (some (.long (K5_0 x0))) h0 n0) := by
  refine Con.of (Jvm.Free.JP.mathPlain rfl (by decide +kernel)) ?_
  intro p e s m below meth c T X hx hZ hby hml hown hnm hret hlk e0
  rw [ef_5]
  exact bk5_0 X hx hZ hw hby hml hown hret hlk e0 (Fr.nil n0) x0
theorem own_m (x m : Int32) {k : Nat} (hk : k < 32) (hm : m.toBitVec.toNat = 2 ^ k - 1) : 0 ≤ (x &&& m).toInt ∧ (x &&& m).toInt < 2 ^ k := by
  rw [Jvm.Kit.i32_mask x m hk hm]
  exact ⟨Int.emod_nonneg _ (by have : (0 : Int) < 2 ^ k := Int.pow_pos (by decide); omega), Int.emod_lt_of_pos _ (Int.pow_pos (by decide))⟩
theorem own_one : (1 : Int32).toInt = 1 := by decide
theorem own_zero : (0 : Int32).toInt = 0 := by decide
theorem own_toInt {x y : Int32} (h : x.toInt = y.toInt) : x = y := Int32.toInt_inj.mp h
theorem own_and1 (x : Int32) : x &&& 1 = 0 ∨ x &&& 1 = 1 := and_one x
theorem own_and3 (x : Int32) : x &&& 3 = 0 ∨ x &&& 3 = 1 ∨ x &&& 3 = 2 ∨ x &&& 3 = 3 := by
  obtain ⟨h1, h2⟩ := own_m x 3 (k := 2) (by decide) (by decide)
  have e1 : (1 : Int32).toInt = 1 := by decide
  have e2 : (2 : Int32).toInt = 2 := by decide
  have e3 : (3 : Int32).toInt = 3 := by decide
  have e0 : (0 : Int32).toInt = 0 := by decide
  have : (x &&& 3).toInt = 0 ∨ (x &&& 3).toInt = 1 ∨ (x &&& 3).toInt = 2 ∨ (x &&& 3).toInt = 3 := by omega
  rcases this with h | h | h | h
  · exact Or.inl (own_toInt (h.trans e0.symm))
  · exact Or.inr (Or.inl (own_toInt (h.trans e1.symm)))
  · exact Or.inr (Or.inr (Or.inl (own_toInt (h.trans e2.symm))))
  · exact Or.inr (Or.inr (Or.inr (own_toInt (h.trans e3.symm))))
theorem own_b01 {c : Prop} [Decidable c] {v : Int32} (h : v = if c then 0 else 1) : v = 0 ∨ v = 1 := by subst h; split <;> simp
theorem own_b10 {c : Prop} [Decidable c] {v : Int32} (h : v = if c then 1 else 0) : v = 0 ∨ v = 1 := by subst h; split <;> simp
theorem own_dist (y : Int32) : (y &&& 0x3f).toInt64.toUInt64.toNat = (y.toInt % 64).toNat := by
  have h1 : (y &&& 63).toInt = y.toInt % 2 ^ 6 := Jvm.Kit.i32_mask y 63 (k := 6) (by decide) (by decide)
  have h2 : (y &&& 63).toInt64.toInt = (y &&& 63).toInt := Int32.toInt_toInt64 _
  have h3 : ((y &&& 63).toInt64.toUInt64.toNat : Int) = (y &&& 63).toInt64.toInt := by
    have h4 : (y &&& 63).toInt64.toInt = (y &&& 63).toInt64.toBitVec.toInt := rfl
    have h5 : (y &&& 63).toInt64.toUInt64.toNat = (y &&& 63).toInt64.toBitVec.toNat := rfl
    have h6 : 0 ≤ (y &&& 63).toInt64.toBitVec.toInt := by rw [← h4, h2, h1]; omega
    rw [h4, h5, BitVec.toInt_eq_toNat_cond] at *
    have := (y &&& 63).toInt64.toBitVec.isLt
    split at h6 <;> split <;> omega
  rw [show (0x3f : Int32) = 63 from rfl]
  omega
theorem own_lushr_bv (x : Int64) (y : Int32) : (jlushr x y).toBitVec = x.toBitVec >>> (y.toInt % 64).toNat := by
  show (x.toUInt64 >>> (y &&& 0x3f).toInt64.toUInt64).toBitVec = _
  rw [UInt64.toBitVec_shiftRight]
  have := own_dist y
  rw [BitVec.ushiftRight_eq']
  have e : ((y &&& 0x3f).toInt64.toUInt64.toBitVec % 64).toNat = (y.toInt % 64).toNat := by
    rw [BitVec.toNat_umod]
    show (y &&& 0x3f).toInt64.toUInt64.toNat % 64 = _
    rw [this]; omega
  rw [e]
  rfl
theorem own_lushr_nat (x : Int64) (y : Int32) : (jlushr x y).toBitVec.toNat = x.toBitVec.toNat / 2 ^ (y.toInt % 64).toNat := by
  rw [own_lushr_bv, BitVec.toNat_ushiftRight, Nat.shiftRight_eq_div_pow]
theorem own_bit (m : Int64) (p : Int32) (h0 : 0 ≤ p.toInt) (h : p.toInt < 64) : ((jlushr m p &&& 1) = 0) ↔ m.toBitVec.getLsbD p.toInt.toNat = false := by
  rw [← Int64.toBitVec_inj, Int64.toBitVec_and, own_lushr_bv]
  have e : (p.toInt % 64).toNat = p.toInt.toNat := by omega
  rw [e]
  have e1 : (1 : Int64).toBitVec = 1#64 := rfl
  have e0 : (0 : Int64).toBitVec = 0#64 := rfl
  rw [e1, e0, ← BitVec.toNat_inj, BitVec.toNat_and, BitVec.toNat_ushiftRight]
  rw [show (1#64).toNat = 1 from rfl, show (0#64).toNat = 0 from rfl, Nat.and_one_is_mod]
  rw [BitVec.getLsbD, Nat.testBit]
  rw [Nat.and_comm, Nat.and_one_is_mod]
  simp
theorem own_smod (d : Int32) : ((d &&& 0x3f).toInt64.toBitVec.smod 64).toNat = (d.toInt % 64).toNat := by
  have h1 := own_dist d
  have h2 : (d &&& 0x3f).toInt64.toBitVec.toNat = (d.toInt % 64).toNat := h1
  have h3 : (d &&& 0x3f).toInt64.toBitVec = BitVec.ofNat 64 (d.toInt % 64).toNat := by
    apply BitVec.eq_of_toNat_eq
    rw [h2, BitVec.toNat_ofNat]; omega
  rw [h3]
  have h4 : (d.toInt % 64).toNat < 64 := by omega
  generalize (d.toInt % 64).toNat = n at *
  have : ∀ n, n < 64 → ((BitVec.ofNat 64 n).smod 64).toNat = n := by decide
  exact this n h4
theorem own_shl_bv (x : Int64) (d : Int32) : (x <<< (d &&& 0x3f).toInt64).toBitVec = x.toBitVec <<< (d.toInt % 64).toNat := by
  rw [Int64.toBitVec_shiftLeft, BitVec.shiftLeft_eq', own_smod]
theorem own_bit1 (d p : Int32) (h0 : 0 ≤ p.toInt) (h : p.toInt < 64) : ((1 : Int64) <<< (d &&& 0x3f).toInt64).toBitVec.getLsbD p.toInt.toNat = decide ((d &&& 63) = p) := by
  rw [own_shl_bv, show (1 : Int64).toBitVec = 1#64 from rfl, BitVec.getLsbD_shiftLeft]
  have h1 : (d &&& 63).toInt = d.toInt % 2 ^ 6 := Jvm.Kit.i32_mask d 63 (k := 6) (by decide) (by decide)
  rw [BitVec.getLsbD_one, Bool.eq_iff_iff]
  simp only [Bool.and_eq_true, Bool.not_eq_true', decide_eq_true_eq, decide_eq_false_iff_not]
  rw [← Int32.toInt_inj, h1]
  omega
theorem own_or_bit (a b : Int64) (n : Nat) : (a ||| b).toBitVec.getLsbD n = (a.toBitVec.getLsbD n || b.toBitVec.getLsbD n) := by
  rw [Int64.toBitVec_or, BitVec.getLsbD_or]
theorem own_field (x : Int64) : (x &&& 63).toInt32 = x.toInt32 &&& 63 := by
  rw [Int64.toInt32_and]; rfl
theorem own_u0 (x : Int64) : jlushr x 0 = x := by
  apply Int64.toBitVec_inj.mp
  rw [own_lushr_bv]; simp
theorem own_dec : ∀ N : Nat, N ≠ 0 → ∃ t q, N = 2 ^ (t + 1) * q + 2 ^ t := by
  intro N
  induction N using Nat.strongRecOn with
  | _ N ih =>
    intro h
    by_cases ho : N % 2 = 1
    · exact ⟨0, N / 2, by omega⟩
    · obtain ⟨t, q, e⟩ := ih (N / 2) (by omega) (by omega)
      refine ⟨t + 1, q, ?_⟩
      have p1 : 2 ^ (t + 1 + 1) * q = 2 * (2 ^ (t + 1) * q) := by rw [Nat.pow_succ 2 (t + 1), Nat.mul_comm (2 ^ (t + 1)) 2, Nat.mul_assoc]
      have p2 : 2 ^ (t + 1) = 2 * 2 ^ t := by rw [Nat.pow_succ, Nat.mul_comm]
      rw [p1, p2]
      rw [p2] at e
      omega
theorem own_low (w t q : Nat) (h : 2 ^ (t + 1) * q + 2 ^ t < 2 ^ w) : (2 ^ w - ((2 ^ (t + 1) * q + 2 ^ t) + 1)) &&& (2 ^ (t + 1) * q + 2 ^ t - 1) = 2 ^ t - 1 := by
  have hp : 0 < 2 ^ t := Nat.two_pow_pos t
  have hp2 : 2 ^ t < 2 ^ (t + 1) := by rw [Nat.pow_succ]; omega
  have e1 : 2 ^ (t + 1) * q + 2 ^ t - 1 = 2 ^ (t + 1) * q + (2 ^ t - 1) := by omega
  apply Nat.eq_of_testBit_eq
  intro j
  rw [Nat.testBit_and, Nat.testBit_two_pow_sub_succ h, e1, Nat.testBit_two_pow_mul_add q hp2, Nat.testBit_two_pow_mul_add q (by omega), Nat.testBit_two_pow_sub_one]
  by_cases c : j < t + 1
  · rw [if_pos c, if_pos c, Nat.testBit_two_pow]
    by_cases c2 : j < t
    · have hw : j < w := by
        rcases Nat.lt_or_ge j w with g | g
        · exact g
        · exfalso
          have : 2 ^ w ≤ 2 ^ t := Nat.pow_le_pow_right (by decide) (by omega)
          omega
      simp [c2, hw]; omega
    · have : t = j := by omega
      simp [this]
  · rw [if_neg c, if_neg c]
    have : ¬ j < t := by omega
    simp only [this, decide_false]
    cases q.testBit (j - (t + 1)) <;> simp
theorem own_top (w t q : Nat) (h : 2 ^ (t + 1) * q + 2 ^ t < 2 ^ w) : (2 ^ (t + 1) * q + 2 ^ t) &&& (2 ^ w - (2 ^ (t + 1) * q + 2 ^ t)) = 2 ^ t := by
  have hp : 0 < 2 ^ t := Nat.two_pow_pos t
  have hp2 : 2 ^ t < 2 ^ (t + 1) := by rw [Nat.pow_succ]; omega
  have e1 : 2 ^ w - (2 ^ (t + 1) * q + 2 ^ t) = 2 ^ w - ((2 ^ (t + 1) * q + (2 ^ t - 1)) + 1) := by omega
  rw [e1]
  apply Nat.eq_of_testBit_eq
  intro j
  rw [Nat.testBit_and, Nat.testBit_two_pow_sub_succ (by omega), Nat.testBit_two_pow_mul_add q hp2, Nat.testBit_two_pow_mul_add q (by omega), Nat.testBit_two_pow, Nat.testBit_two_pow_sub_one]
  by_cases c : j < t + 1
  · rw [if_pos c, if_pos c]
    by_cases c2 : t = j
    · subst c2
      have hw : t < w := by
        rcases Nat.lt_or_ge t w with g | g
        · exact g
        · exfalso
          have : 2 ^ w ≤ 2 ^ t := Nat.pow_le_pow_right (by decide) g
          omega
      simp [hw]
    · simp [c2]
  · rw [if_neg c, if_neg c]
    have : ¬ t = j := by omega
    simp only [this, decide_false]
    cases q.testBit (j - (t + 1)) <;> simp
def own_k3 (i : Int32) : Int32 := (if (0 : Int32) < i then (if (65536 : Int32) < i then (K3_34 (jushr i (16 : Int32)) (17 : Int32)) else (K3_34 i (1 : Int32))) else (i &&& (32 : Int32)))
theorem own_k3t : ∀ t, t < 32 → own_k3 (Int32.ofNat (2 ^ t - 1)) = Int32.ofNat t := by decide +kernel
theorem own_ntz32 (x : Int32) {t q : Nat} (h : x.toBitVec.toNat = 2 ^ (t + 1) * q + 2 ^ t) : t < 32 ∧ K3_0 x = Int32.ofNat t := by
  have hlt := x.toBitVec.isLt
  have hp : 0 < 2 ^ t := Nat.two_pow_pos t
  have ht : t < 32 := by
    rcases Nat.lt_or_ge t 32 with g | g
    · exact g
    · exfalso
      have : 2 ^ 32 ≤ 2 ^ t := Nat.pow_le_pow_right (by decide) g
      omega
  refine ⟨ht, ?_⟩
  have e1 : (x ^^^ (-1)).toBitVec.toNat = 2 ^ 32 - (x.toBitVec.toNat + 1) := by
    rw [Int32.toBitVec_xor, show (-1 : Int32).toBitVec = BitVec.allOnes 32 from rfl, BitVec.xor_allOnes, BitVec.toNat_not]
    omega
  have e2 : (x - 1).toBitVec.toNat = x.toBitVec.toNat - 1 := by
    rw [Int32.toBitVec_sub, BitVec.toNat_sub, show (1 : Int32).toBitVec.toNat = 1 from rfl]
    omega
  have e3 : (x ^^^ (-1)) &&& (x - 1) = Int32.ofNat (2 ^ t - 1) := by
    apply Int32.toBitVec_inj.mp
    apply BitVec.eq_of_toNat_eq
    rw [Int32.toBitVec_and, BitVec.toNat_and, e1, e2, h, own_low 32 t q (by omega)]
    show _ = (BitVec.ofNat 32 (2 ^ t - 1)).toNat
    rw [BitVec.toNat_ofNat]
    have : 2 ^ t < 2 ^ 32 := Nat.pow_lt_pow_right (by decide) ht
    omega
  rw [K3_0, e3]
  exact own_k3t t ht
theorem own_lo32 (x : Int64) : x.toInt32.toBitVec.toNat = x.toBitVec.toNat % 2 ^ 32 := by
  show (x.toBitVec.signExtend 32).toNat = _
  rw [BitVec.signExtend_eq_setWidth_of_le _ (by decide), BitVec.toNat_setWidth]
theorem own_nz32 {x : Int32} : (x = 0) ↔ x.toBitVec.toNat = 0 := by
  rw [← Int32.toBitVec_inj, ← BitVec.toNat_inj]; rfl
theorem own_nz64 {x : Int64} : (x = 0) ↔ x.toBitVec.toNat = 0 := by
  rw [← Int64.toBitVec_inj, ← BitVec.toNat_inj]; rfl
theorem own_ntz64 (x : Int64) {t q : Nat} (h : x.toBitVec.toNat = 2 ^ (t + 1) * q + 2 ^ t) : t < 64 ∧ K2_0 x = Int32.ofNat t := by
  have hlt := x.toBitVec.isLt
  have hp : 0 < 2 ^ t := Nat.two_pow_pos t
  have ht : t < 64 := by
    rcases Nat.lt_or_ge t 64 with g | g
    · exact g
    · exfalso
      have : 2 ^ 64 ≤ 2 ^ t := Nat.pow_le_pow_right (by decide) g
      omega
  refine ⟨ht, ?_⟩
  have hlo := own_lo32 x
  have hhi : (jlushr x 32).toInt32.toBitVec.toNat = x.toBitVec.toNat / 2 ^ 32 := by
    rw [own_lo32, own_lushr_nat, show ((32 : Int32).toInt % 64).toNat = 32 from by decide]
    omega
  rcases Nat.lt_or_ge t 32 with g | g
  · have e : 2 ^ 32 = 2 ^ (t + 1) * 2 ^ (31 - t) := by rw [← Nat.pow_add]; congr 1; omega
    have hl2 : x.toInt32.toBitVec.toNat = 2 ^ (t + 1) * (q % 2 ^ (31 - t)) + 2 ^ t := by
      have h2 : 2 ^ t < 2 ^ (t + 1) := by rw [Nat.pow_succ]; omega
      have a1 : (2 ^ (t + 1) * q + 2 ^ t) % 2 ^ (t + 1) = 2 ^ t := by rw [Nat.mul_add_mod, Nat.mod_eq_of_lt h2]
      have a2 : (2 ^ (t + 1) * q + 2 ^ t) / 2 ^ (t + 1) = q := by rw [Nat.mul_add_div (Nat.two_pow_pos _), Nat.div_eq_of_lt h2, Nat.add_zero]
      rw [hlo, h, e, Nat.mod_mul, a1, a2, Nat.add_comm]
    have hne : ¬ x.toInt32 = 0 := by rw [own_nz32, hl2]; omega
    rw [K2_0, if_neg hne]
    exact (own_ntz32 _ hl2).2
  · have e : 2 ^ t = 2 ^ (t - 32) * 2 ^ 32 := by rw [← Nat.pow_add]; congr 1; omega
    have e' : 2 ^ (t + 1) = 2 ^ (t - 32 + 1) * 2 ^ 32 := by rw [← Nat.pow_add]; congr 1; omega
    have h2 : x.toBitVec.toNat = (2 ^ (t - 32 + 1) * q + 2 ^ (t - 32)) * 2 ^ 32 := by rw [h, e, e', Nat.add_mul, Nat.mul_right_comm]
    have hz : x.toInt32 = 0 := by rw [own_nz32, hlo, h2]; omega
    have h3 : (jlushr x 32).toInt32.toBitVec.toNat = 2 ^ (t - 32 + 1) * q + 2 ^ (t - 32) := by rw [hhi, h2]; omega
    obtain ⟨a1, a2⟩ := own_ntz32 _ h3
    rw [K2_0, if_pos hz, a2]
    apply own_toInt
    have l : (32 : Int32).toInt = 32 := by decide
    have n1 : (Int32.ofNat (t - 32)).toInt = ((t - 32 : Nat) : Int) := Int32.toInt_ofNat_small (by omega)
    have n2 : (Int32.ofNat t).toInt = (t : Int) := Int32.toInt_ofNat_small (by omega)
    rw [Jvm.Kit.i32_add (by omega) (by omega), l, n1, n2]
    omega
theorem own_oi {a : Nat} (h : a < 2 ^ 63) : (Int64.ofNat a).toInt = a := Int64.toInt_ofNat_of_lt h
theorem own_ob {a : Nat} (h : a < 2 ^ 64) : (Int64.ofNat a).toBitVec.toNat = a := by
  show (BitVec.ofNat 64 a).toNat = a
  rw [BitVec.toNat_ofNat]; omega
theorem own_on {x : Int64} (h : 0 ≤ x.toInt) : ∃ a : Nat, a < 2 ^ 63 ∧ x = Int64.ofNat a ∧ x.toInt = a := by
  have h1 := x.toInt_lt
  refine ⟨x.toInt.toNat, by omega, ?_, by omega⟩
  apply Int64.toInt_inj.mp
  rw [own_oi (by omega)]; omega
theorem own_z {a : Nat} (h : a < 2 ^ 63) : (Int64.ofNat a = 0) ↔ a = 0 := by
  rw [← Int64.toInt_inj, own_oi h, show (0 : Int64).toInt = 0 from rfl]; omega
theorem own_orb {a b : Nat} (ha : a < 2 ^ 63) (hb : b < 2 ^ 63) : (Int64.ofNat a ||| Int64.ofNat b) = Int64.ofNat (a ||| b) := by
  have hc : a ||| b < 2 ^ 63 := Nat.or_lt_two_pow ha hb
  apply Int64.toBitVec_inj.mp
  apply BitVec.eq_of_toNat_eq
  rw [Int64.toBitVec_or, BitVec.toNat_or, own_ob (by omega), own_ob (by omega), own_ob (by omega)]
theorem own_orp {a b : Nat} (ha : a < 2 ^ 63) (hb : b < 2 ^ 63) : ¬ ((Int64.ofNat a ||| Int64.ofNat b) < (0 : Int64)) := by
  rw [own_orb ha hb, Int64.lt_iff_toInt_lt, own_oi (Nat.or_lt_two_pow ha hb), show (0 : Int64).toInt = 0 from rfl]; omega
theorem own_sh {t : Nat} (h : t < 64) : ((Int32.ofNat t).toInt % 64).toNat = t := by
  rw [show (Int32.ofNat t).toInt = (t : Int) from Int32.toInt_ofNat_small (by omega)]; omega
theorem own_p2 (t q : Nat) : 2 ^ (t + 1) * q + 2 ^ t = 2 ^ t * (2 * q + 1) := by
  rw [Nat.pow_succ, Nat.mul_add, Nat.mul_one, Nat.mul_assoc]
theorem own_odd {x : Int64} {r : Nat} (hr : r ≠ 0) (hlt : r < 2 ^ 63) (h : x = (Int64.ofNat r >>> (K2_0 (Int64.ofNat r) &&& 0x3f).toInt64)) : ∃ t q, r = 2 ^ t * (2 * q + 1) ∧ t < 64 ∧ x = Int64.ofNat (2 * q + 1) := by
  obtain ⟨t, q, e⟩ := own_dec r hr
  have hb := own_ob (a := r) (by omega)
  obtain ⟨ht, hk⟩ := own_ntz64 (Int64.ofNat r) (hb.trans e)
  have hp : 0 < 2 ^ t := Nat.two_pow_pos t
  have e2 := own_p2 t q
  refine ⟨t, q, by omega, ht, ?_⟩
  have hle : 2 * q + 1 ≤ r := by rw [e, e2]; exact Nat.le_mul_of_pos_left _ hp
  apply Int64.toInt_inj.mp
  rw [h, hk, Jvm.Kit.i64_shr _ _ ((own_smod _).trans (own_sh ht)), own_oi hlt, own_oi (by omega), e, e2]
  have : ((2 ^ t * (2 * q + 1) : Nat) : Int) = 2 ^ t * ((2 * q + 1 : Nat) : Int) := by push_cast; rfl
  rw [this, Int.mul_ediv_cancel_left _ (by exact_mod_cast Nat.ne_of_gt hp)]
theorem own_c2 {o : Nat} (h : o % 2 = 1) (t : Nat) : Nat.Coprime (2 ^ t) o := by
  apply Nat.Coprime.pow_left
  show Nat.gcd 2 o = 1
  rw [Nat.gcd_rec, h]
  decide
theorem own_g1 {o : Nat} (h : o % 2 = 1) (t q : Nat) : Nat.gcd o (2 ^ t * q) = Nat.gcd o q := (own_c2 h t).gcd_mul_left_cancel_right q
def own_dst (o r : Nat) : Nat := if o ≤ r then r - o else o - r
theorem own_mn (o r : Nat) : Nat.gcd (min o r) (own_dst o r) = Nat.gcd o r := by
  rw [own_dst]
  split
  · rename_i h
    rw [Nat.min_eq_left h, Nat.gcd_sub_self_right h]
  · rename_i h
    rw [Nat.min_eq_right (by omega), Nat.gcd_sub_self_right (by omega), Nat.gcd_comm]
theorem own_min {o r : Nat} (ho : o < 2 ^ 63) (hr : r < 2 ^ 63) : K4_0 (Int64.ofNat o) (Int64.ofNat r) = Int64.ofNat (min o r) := by
  rw [K4_0]
  have : (Int64.ofNat r < Int64.ofNat o) ↔ r < o := by rw [Int64.lt_iff_toInt_lt, own_oi ho, own_oi hr]; omega
  by_cases c : r < o
  · rw [if_pos (this.2 c), Nat.min_eq_right (by omega)]
  · rw [if_neg (fun q => c (this.1 q)), Nat.min_eq_left (by omega)]
theorem own_abs {o r : Nat} (ho : o < 2 ^ 63) (hr : r < 2 ^ 63) : K5_0 (Int64.ofNat r - Int64.ofNat o) = Int64.ofNat (own_dst o r) := by
  have e : (Int64.ofNat r - Int64.ofNat o).toInt = (r : Int) - o := by rw [Jvm.Kit.i64_sub (by rw [own_oi ho, own_oi hr]; omega) (by rw [own_oi ho, own_oi hr]; omega), own_oi ho, own_oi hr]
  have z : (0 : Int64).toInt = 0 := rfl
  apply Int64.toInt_inj.mp
  rw [K5_0, own_dst]
  by_cases c : o ≤ r
  · rw [if_neg (by rw [Int64.lt_iff_toInt_lt, e, z]; omega), if_pos c, e, own_oi (by omega)]; omega
  · rw [if_pos (by rw [Int64.lt_iff_toInt_lt, e, z]; omega), if_neg c, Jvm.Kit.i64_neg (by omega), e, own_oi (by omega)]; omega
theorem own_meas {o r q t n : Nat} (h : o + r < n + 1) (ho : o % 2 = 1) (hr : r = 2 ^ t * (2 * q + 1)) : min o (2 * q + 1) + own_dst o (2 * q + 1) < n ∧ 2 * q + 1 ≤ r := by
  have hp : 0 < 2 ^ t := Nat.two_pow_pos t
  have hle : 2 * q + 1 ≤ r := by rw [hr]; exact Nat.le_mul_of_pos_left _ hp
  rw [own_dst]
  split <;> omega
theorem own_modd {o q : Nat} (ho : o % 2 = 1) : min o (2 * q + 1) % 2 = 1 := by omega
theorem own_dlt {o q : Nat} (ho : o < 2 ^ 63) (hq : 2 * q + 1 < 2 ^ 63) : min o (2 * q + 1) < 2 ^ 63 ∧ own_dst o (2 * q + 1) < 2 ^ 63 := by
  rw [own_dst]
  split <;> omega
theorem own_ormin {ta qa tb qb : Nat} : ∃ Q, (2 ^ ta * (2 * qa + 1)) ||| (2 ^ tb * (2 * qb + 1)) = 2 ^ (min ta tb + 1) * Q + 2 ^ (min ta tb) := by
  have key : ∀ (t d x y : Nat), x % 2 = 1 ∨ y % 2 = 1 → ∃ Q, (2 ^ t * x) ||| (2 ^ t * y) = 2 ^ (t + 1) * Q + 2 ^ t := by
    intro t d x y h
    have hp : 0 < 2 ^ t := Nat.two_pow_pos t
    have e0 : ((2 ^ t * x) ||| (2 ^ t * y)) % 2 ^ t = 0 := by rw [Nat.or_mod_two_pow, Nat.mul_mod_right, Nat.mul_mod_right]; rfl
    have e1 : ((2 ^ t * x) ||| (2 ^ t * y)) / 2 ^ t = x ||| y := by rw [Nat.or_div_two_pow, Nat.mul_div_cancel_left _ hp, Nat.mul_div_cancel_left _ hp]
    have e2 : (x ||| y) % 2 = 1 := by
      have := @Nat.or_mod_two_pow x y 1
      rw [Nat.pow_one] at this
      rw [this]
      have hx : x % 2 = 0 ∨ x % 2 = 1 := by omega
      have hy : y % 2 = 0 ∨ y % 2 = 1 := by omega
      rcases hx with hx | hx <;> rcases hy with hy | hy <;> rw [hx, hy] <;> first | rfl | omega
    refine ⟨(x ||| y) / 2, ?_⟩
    have e3 := Nat.div_add_mod ((2 ^ t * x) ||| (2 ^ t * y)) (2 ^ t)
    rw [e0, e1, Nat.add_zero] at e3
    rw [← e3, own_p2]
    congr 1
    omega
  rcases Nat.le_total ta tb with h | h
  · obtain ⟨d, rfl⟩ := Nat.exists_eq_add_of_le h
    rw [Nat.min_eq_left (by omega), Nat.pow_add, Nat.mul_assoc]
    exact key ta 0 _ _ (Or.inl (by omega))
  · obtain ⟨d, rfl⟩ := Nat.exists_eq_add_of_le h
    rw [Nat.min_eq_right (by omega), Nat.pow_add, Nat.mul_assoc]
    exact key tb 0 _ _ (Or.inr (by omega))
theorem own_gg {ta qa tb qb : Nat} : Nat.gcd (2 ^ ta * (2 * qa + 1)) (2 ^ tb * (2 * qb + 1)) = 2 ^ (min ta tb) * Nat.gcd (2 * qa + 1) (2 ^ tb * (2 * qb + 1)) := by
  have h1 : Nat.gcd (2 * qa + 1) (2 ^ tb * (2 * qb + 1)) = Nat.gcd (2 * qa + 1) (2 * qb + 1) := own_g1 (by omega) tb _
  rw [h1]
  rcases Nat.le_total ta tb with h | h
  · obtain ⟨d, rfl⟩ := Nat.exists_eq_add_of_le h
    rw [Nat.min_eq_left (by omega), Nat.pow_add, Nat.mul_assoc, Nat.gcd_mul_left, own_g1 (o := 2 * qa + 1) (by omega)]
  · obtain ⟨d, rfl⟩ := Nat.exists_eq_add_of_le h
    rw [Nat.min_eq_right (by omega), Nat.pow_add, Nat.mul_assoc, Nat.gcd_mul_left, Nat.gcd_comm, own_g1 (o := 2 * qb + 1) (by omega), Nat.gcd_comm]
theorem own_gle {a b : Nat} (hb : b ≠ 0) : Nat.gcd a b ≤ b := Nat.gcd_le_right a (by omega)
theorem own_fin {a b ta qa : Nat} {shv : Int32} (ha : a < 2 ^ 63) (hb : b < 2 ^ 63) (ha2 : a = 2 ^ ta * (2 * qa + 1)) (hb0 : b ≠ 0) (hs : shv = K2_0 (Int64.ofNat a ||| Int64.ofNat b)) : (Int64.ofNat (Nat.gcd (2 * qa + 1) b) <<< (shv &&& 0x3f).toInt64) = Int64.ofNat (Nat.gcd a b) := by
  obtain ⟨tb, qb, hb2⟩ := own_dec b hb0
  rw [own_p2] at hb2
  obtain ⟨Q, hQ⟩ := @own_ormin ta qa tb qb
  rw [← ha2, ← hb2] at hQ
  have hc : a ||| b < 2 ^ 63 := Nat.or_lt_two_pow ha hb
  obtain ⟨hm, hk⟩ := own_ntz64 (Int64.ofNat (a ||| b)) ((own_ob (by omega)).trans hQ)
  have gg := @own_gg ta qa tb qb
  rw [← ha2, ← hb2] at gg
  have l1 := own_gle (a := a) hb0
  have l2 := own_gle (a := 2 * qa + 1) hb0
  have gi : ((Nat.gcd a b : Nat) : Int) = 2 ^ (min ta tb) * (Nat.gcd (2 * qa + 1) b : Nat) := by rw [gg]; push_cast; rfl
  apply Int64.toInt_inj.mp
  rw [hs, own_orb ha hb, hk, Jvm.Kit.i64_shl _ _ ((own_smod _).trans (own_sh hm)) (by rw [own_oi (by omega), Int.mul_comm, ← gi]; omega) (by rw [own_oi (by omega), Int.mul_comm, ← gi]; omega), own_oi (by omega), own_oi (by omega), Int.mul_comm, ← gi]
theorem own_r1 {a b : Nat} (ha : a < 2 ^ 63) (hb : b < 2 ^ 63) (h : Int64.ofNat a = 0) : (Int64.ofNat a ||| Int64.ofNat b) = Int64.ofNat (Nat.gcd a b) := by
  rw [own_z ha] at h
  subst h
  rw [own_orb ha hb, Nat.zero_or, Nat.gcd_zero_left]
theorem own_r2 {a b : Nat} (ha : a < 2 ^ 63) (hb : b < 2 ^ 63) (h : Int64.ofNat b = 0) : (Int64.ofNat a ||| Int64.ofNat b) = Int64.ofNat (Nat.gcd a b) := by
  rw [own_z hb] at h
  subst h
  rw [own_orb ha hb, Nat.or_zero, Nat.gcd_zero_right]
theorem own_lp {o r : Nat} (hr : r < 2 ^ 63) (h : Int64.ofNat r = 0) : Nat.gcd o r = o := by
  rw [own_z hr] at h
  rw [h, Nat.gcd_zero_right]
theorem d1_0 : decode prog_24_method_2_code 0 = .ok (.lload_n 0, 1) := by decide +kernel
theorem d1_1 : decode prog_24_method_2_code 1 = .ok (.lload_n 2, 1) := by decide +kernel
theorem d1_2 : decode prog_24_method_2_code 2 = .ok (.lor, 1) := by decide +kernel
theorem d1_3 : decode prog_24_method_2_code 3 = .ok (.lconst 0, 1) := by decide +kernel
theorem d1_4 : decode prog_24_method_2_code 4 = .ok (.lcmp, 1) := by decide +kernel
theorem d1_5 : decode prog_24_method_2_code 5 = .ok (.ifCond .ge 18, 3) := by decide +kernel
theorem d1_23 : decode prog_24_method_2_code 23 = .ok (.lload_n 0, 1) := by decide +kernel
theorem d1_24 : decode prog_24_method_2_code 24 = .ok (.lconst 0, 1) := by decide +kernel
theorem d1_25 : decode prog_24_method_2_code 25 = .ok (.lcmp, 1) := by decide +kernel
theorem d1_26 : decode prog_24_method_2_code 26 = .ok (.ifCond .eq 9, 3) := by decide +kernel
theorem d1_29 : decode prog_24_method_2_code 29 = .ok (.lload_n 2, 1) := by decide +kernel
theorem d1_30 : decode prog_24_method_2_code 30 = .ok (.lconst 0, 1) := by decide +kernel
theorem d1_31 : decode prog_24_method_2_code 31 = .ok (.lcmp, 1) := by decide +kernel
theorem d1_32 : decode prog_24_method_2_code 32 = .ok (.ifCond .ne 7, 3) := by decide +kernel
theorem d1_35 : decode prog_24_method_2_code 35 = .ok (.lload_n 0, 1) := by decide +kernel
theorem d1_36 : decode prog_24_method_2_code 36 = .ok (.lload_n 2, 1) := by decide +kernel
theorem d1_37 : decode prog_24_method_2_code 37 = .ok (.lor, 1) := by decide +kernel
theorem d1_38 : decode prog_24_method_2_code 38 = .ok (.lreturn, 1) := by decide +kernel
theorem d1_39 : decode prog_24_method_2_code 39 = .ok (.lload_n 0, 1) := by decide +kernel
theorem d1_40 : decode prog_24_method_2_code 40 = .ok (.lload_n 2, 1) := by decide +kernel
theorem d1_41 : decode prog_24_method_2_code 41 = .ok (.lor, 1) := by decide +kernel
theorem d1_42 : decode prog_24_method_2_code 42 = .ok (.invokestatic 18, 3) := by decide +kernel
theorem d1_45 : decode prog_24_method_2_code 45 = .ok (.istore 4, 2) := by decide +kernel
theorem d1_47 : decode prog_24_method_2_code 47 = .ok (.lload_n 0, 1) := by decide +kernel
theorem d1_48 : decode prog_24_method_2_code 48 = .ok (.lload_n 0, 1) := by decide +kernel
theorem d1_49 : decode prog_24_method_2_code 49 = .ok (.invokestatic 18, 3) := by decide +kernel
theorem d1_52 : decode prog_24_method_2_code 52 = .ok (.lshr, 1) := by decide +kernel
theorem d1_53 : decode prog_24_method_2_code 53 = .ok (.lstore 5, 2) := by decide +kernel
theorem d1_55 : decode prog_24_method_2_code 55 = .ok (.lload_n 2, 1) := by decide +kernel
theorem d1_56 : decode prog_24_method_2_code 56 = .ok (.lstore 7, 2) := by decide +kernel
theorem d1_58 : decode prog_24_method_2_code 58 = .ok (.lload 7, 2) := by decide +kernel
theorem d1_60 : decode prog_24_method_2_code 60 = .ok (.lconst 0, 1) := by decide +kernel
theorem d1_61 : decode prog_24_method_2_code 61 = .ok (.lcmp, 1) := by decide +kernel
theorem d1_62 : decode prog_24_method_2_code 62 = .ok (.ifCond .eq 39, 3) := by decide +kernel
theorem d1_65 : decode prog_24_method_2_code 65 = .ok (.lload 7, 2) := by decide +kernel
theorem d1_67 : decode prog_24_method_2_code 67 = .ok (.lload 7, 2) := by decide +kernel
theorem d1_69 : decode prog_24_method_2_code 69 = .ok (.invokestatic 18, 3) := by decide +kernel
theorem d1_72 : decode prog_24_method_2_code 72 = .ok (.lshr, 1) := by decide +kernel
theorem d1_73 : decode prog_24_method_2_code 73 = .ok (.lstore 7, 2) := by decide +kernel
theorem d1_75 : decode prog_24_method_2_code 75 = .ok (.lload 7, 2) := by decide +kernel
theorem d1_77 : decode prog_24_method_2_code 77 = .ok (.lload 5, 2) := by decide +kernel
theorem d1_79 : decode prog_24_method_2_code 79 = .ok (.lsub, 1) := by decide +kernel
theorem d1_80 : decode prog_24_method_2_code 80 = .ok (.lstore 9, 2) := by decide +kernel
theorem d1_82 : decode prog_24_method_2_code 82 = .ok (.lload 5, 2) := by decide +kernel
theorem d1_84 : decode prog_24_method_2_code 84 = .ok (.lload 7, 2) := by decide +kernel
theorem d1_86 : decode prog_24_method_2_code 86 = .ok (.invokestatic 22, 3) := by decide +kernel
theorem d1_89 : decode prog_24_method_2_code 89 = .ok (.lstore 5, 2) := by decide +kernel
theorem d1_91 : decode prog_24_method_2_code 91 = .ok (.lload 9, 2) := by decide +kernel
theorem d1_93 : decode prog_24_method_2_code 93 = .ok (.invokestatic 28, 3) := by decide +kernel
theorem d1_96 : decode prog_24_method_2_code 96 = .ok (.lstore 7, 2) := by decide +kernel
theorem d1_98 : decode prog_24_method_2_code 98 = .ok (.goto (-40), 3) := by decide +kernel
theorem d1_101 : decode prog_24_method_2_code 101 = .ok (.lload 5, 2) := by decide +kernel
theorem d1_103 : decode prog_24_method_2_code 103 = .ok (.iload 4, 2) := by decide +kernel
theorem d1_105 : decode prog_24_method_2_code 105 = .ok (.lshl, 1) := by decide +kernel
theorem d1_106 : decode prog_24_method_2_code 106 = .ok (.lreturn, 1) := by decide +kernel
set_option maxRecDepth 65536 in
set_option maxHeartbeats 40000000 in
theorem lp1 {p : Program} {l : Launch} {e : Env} {s : State} {m : MethodId} {args : Array Value} {below : List Frame} {meth : Method} {c : Code} {Z : State} {a0 : Array Value} {h0 : Heap} {n0 : Nat} (hx : p.tables.exec = Jvm.exec) (hZ : Z.Warmed39 s.vm) (hw : ∀ d ∈ tables_1, d.before a0 Z = true) (hby : c.code = prog_24_method_2_code) (hml : c.maxLocals = 11) (hown : s.vm.findClass "com/example/curves_to_bounds/curvestobounds/Gcd" = some m.cls) (hret : meth.sig.returnType = (some .long)) (hlk : meth.locks = false) (x0 x2 : Int64) (shv : Int32) : ∀ (n : Nat) (T : State) (locs : List Loc) (X : Stand p l e ({ frames := 2, cells := 0, slots := 0, locals := 39 } : Room) s m args below meth c T locs 0 0) (e0 : T.heap = h0) (N0 : Fr n0 locs) (o r : Nat) (s9 s10 : Slot), o + r < n → o % 2 = 1 → o < 2 ^ 63 → r < 2 ^ 63 → ((s9 = .unset ∧ s10 = .unset) ∨ ∃ d : Int64, s9 = .val (.long d) ∧ s10 = .second) →
    Go p e below s 0 0 (QP (some (.long (Int64.ofNat (Nat.gcd o r) <<< (shv &&& 0x3f).toInt64))) h0 n0) T (mkF m 58 #[.val (.long x0), .second, .val (.long x2), .second, .val (.int shv), .val (.long (Int64.ofNat o)), .second, .val (.long (Int64.ofNat r)), .second, s9, s10] []) := by
  intro n
  induction n with
  | zero => intro T locs X e0 N0 o r s9 s10 hn; omega
  | succ n ih =>
    intro T locs X e0 N0 o r s9 s10 hn ho ho2 hr hs
    rcases hs with ⟨rfl, rfl⟩ | ⟨d, rfl, rfl⟩
    · refine w_lload X hx (hb hby d1_58) (pc' := 60) rfl rfl ?_
      refine w_lconst (v := 0) X hx (hb hby d1_60) (pc' := 61) rfl rfl ?_
      refine w_lcmp X hx (hb hby d1_61) (pc' := 62) rfl ?_
      refine w_ifL_eq X hx (hb hby d1_62) (pf := 65) (pt := 101) rfl (by decide) (by decide) (fun hc62 => ?_) (fun hc62 => ?_)
      · refine w_lload X hx (hb hby d1_101) (pc' := 103) rfl rfl ?_
        refine w_iload X hx (hb hby d1_103) (pc' := 105) rfl rfl ?_
        refine w_lshl X hx (hb hby d1_105) (pc' := 106) rfl ?_
        exact w_retJ X hx hret hlk (hb hby d1_106) (by decide) (by decide) ⟨by rw [own_lp hr hc62], N0, e0⟩
      · refine w_lload X hx (hb hby d1_65) (pc' := 67) rfl rfl ?_
        refine w_lload X hx (hb hby d1_67) (pc' := 69) rfl rfl ?_
        refine w_callS (argsL := [(.long (Int64.ofNat r))]) (rest := [(.long (Int64.ofNat r))]) X hx hZ hown e0 (rm2 l Z a0 hw (Int64.ofNat r) h0 n0) (hw _ (List.mem_of_getElem? (i := 7) rfl)) (hw _ (List.mem_of_getElem? (i := 8) rfl)) (hw _ (List.mem_of_getElem? (i := 9) rfl)) (hw _ (List.mem_of_getElem? (i := 10) rfl)) (by decide) (by decide) (W := 2) (by decide) (by decide) (by decide) (by rw [hml]; rfl) (lenOf pd_1 rfl) (Nat.le_refl _) rfl (hb hby d1_69) (pc' := 72) rfl (fun T3 L3 v3 X3 hQ3 => ?_)
        obtain ⟨rfl, N3q, e3⟩ := hQ3
        have N3 := Fr.app N0 N3q
        have X3 : Stand p l e ({ frames := 2, cells := 0, slots := 0, locals := 39 } : Room) s m _ below meth c T3 _ 0 0 := X3
        show Go p e below s 0 0 _ T3 (mkF m 72 #[.val (.long x0), .second, .val (.long x2), .second, .val (.int shv), .val (.long (Int64.ofNat o)), .second, .val (.long (Int64.ofNat r)), .second, .unset, .unset] [(.int (K2_0 (Int64.ofNat r))), (.long (Int64.ofNat r))])
        refine w_lshr X3 hx (hb hby d1_72) (pc' := 73) rfl ?_
        refine w_lstore (Ls' := #[.val (.long x0), .second, .val (.long x2), .second, .val (.int shv), .val (.long (Int64.ofNat o)), .second, .val (.long ((Int64.ofNat r) >>> ((K2_0 (Int64.ofNat r)) &&& 0x3f).toInt64)), .second, .unset, .unset]) X3 hx (hb hby d1_73) (pc' := 75) rfl rfl ?_
        obtain ⟨ot, hot⟩ : ∃ z : Int64, z = ((Int64.ofNat r) >>> ((K2_0 (Int64.ofNat r)) &&& 0x3f).toInt64) := ⟨_, rfl⟩
        rw [← hot]
        have hr0 : r ≠ 0 := fun q => hc62 ((own_z hr).2 q)
        obtain ⟨t, q, hrq, ht, hoq⟩ := own_odd hr0 hr hot
        rw [hoq]
        obtain ⟨hm1, hm2⟩ := own_meas hn ho hrq
        refine w_lload X3 hx (hb hby d1_75) (pc' := 77) rfl rfl ?_
        refine w_lload X3 hx (hb hby d1_77) (pc' := 79) rfl rfl ?_
        refine w_lsub X3 hx (hb hby d1_79) (pc' := 80) rfl ?_
        refine w_lstore (Ls' := #[.val (.long x0), .second, .val (.long x2), .second, .val (.int shv), .val (.long (Int64.ofNat o)), .second, .val (.long (Int64.ofNat (2 * q + 1))), .second, .val (.long ((Int64.ofNat (2 * q + 1)) - (Int64.ofNat o))), .second]) X3 hx (hb hby d1_80) (pc' := 82) rfl rfl ?_
        refine w_lload X3 hx (hb hby d1_82) (pc' := 84) rfl rfl ?_
        refine w_lload X3 hx (hb hby d1_84) (pc' := 86) rfl rfl ?_
        refine w_callS (argsL := [(.long (Int64.ofNat o)), (.long (Int64.ofNat (2 * q + 1)))]) (rest := []) X3 hx hZ hown e3 (rm4 l Z a0 hw (Int64.ofNat o) (Int64.ofNat (2 * q + 1)) h0 n0) (hw _ (List.mem_of_getElem? (i := 16) rfl)) (hw _ (List.mem_of_getElem? (i := 17) rfl)) (hw _ (List.mem_of_getElem? (i := 18) rfl)) (hw _ (List.mem_of_getElem? (i := 19) rfl)) (by decide) (by decide) (W := 0) (by decide) (by decide) (by decide) (by rw [hml]; rfl) (lenOf pd_2 rfl) (Nat.le_refl _) rfl (hb hby d1_86) (pc' := 89) rfl (fun T4 L4 v4 X4 hQ4 => ?_)
        obtain ⟨rfl, N4q, e4⟩ := hQ4
        have N4 := Fr.app N3 N4q
        have X4 : Stand p l e ({ frames := 2, cells := 0, slots := 0, locals := 39 } : Room) s m _ below meth c T4 _ 0 0 := X4
        show Go p e below s 0 0 _ T4 (mkF m 89 #[.val (.long x0), .second, .val (.long x2), .second, .val (.int shv), .val (.long (Int64.ofNat o)), .second, .val (.long (Int64.ofNat (2 * q + 1))), .second, .val (.long ((Int64.ofNat (2 * q + 1)) - (Int64.ofNat o))), .second] [(.long (K4_0 (Int64.ofNat o) (Int64.ofNat (2 * q + 1))))])
        refine w_lstore (Ls' := #[.val (.long x0), .second, .val (.long x2), .second, .val (.int shv), .val (.long (K4_0 (Int64.ofNat o) (Int64.ofNat (2 * q + 1)))), .second, .val (.long (Int64.ofNat (2 * q + 1))), .second, .val (.long ((Int64.ofNat (2 * q + 1)) - (Int64.ofNat o))), .second]) X4 hx (hb hby d1_89) (pc' := 91) rfl rfl ?_
        refine w_lload X4 hx (hb hby d1_91) (pc' := 93) rfl rfl ?_
        refine w_callS (argsL := [(.long ((Int64.ofNat (2 * q + 1)) - (Int64.ofNat o)))]) (rest := []) X4 hx hZ hown e4 (rm5 l Z a0 hw ((Int64.ofNat (2 * q + 1)) - (Int64.ofNat o)) h0 n0) (hw _ (List.mem_of_getElem? (i := 20) rfl)) (hw _ (List.mem_of_getElem? (i := 21) rfl)) (hw _ (List.mem_of_getElem? (i := 18) rfl)) (hw _ (List.mem_of_getElem? (i := 22) rfl)) (by decide) (by decide) (W := 0) (by decide) (by decide) (by decide) (by rw [hml]; rfl) (lenOf pd_3 rfl) (Nat.le_refl _) rfl (hb hby d1_93) (pc' := 96) rfl (fun T5 L5 v5 X5 hQ5 => ?_)
        obtain ⟨rfl, N5q, e5⟩ := hQ5
        have N5 := Fr.app N4 N5q
        have X5 : Stand p l e ({ frames := 2, cells := 0, slots := 0, locals := 39 } : Room) s m _ below meth c T5 _ 0 0 := X5
        show Go p e below s 0 0 _ T5 (mkF m 96 #[.val (.long x0), .second, .val (.long x2), .second, .val (.int shv), .val (.long (K4_0 (Int64.ofNat o) (Int64.ofNat (2 * q + 1)))), .second, .val (.long (Int64.ofNat (2 * q + 1))), .second, .val (.long ((Int64.ofNat (2 * q + 1)) - (Int64.ofNat o))), .second] [(.long (K5_0 ((Int64.ofNat (2 * q + 1)) - (Int64.ofNat o))))])
        refine w_lstore (Ls' := #[.val (.long x0), .second, .val (.long x2), .second, .val (.int shv), .val (.long (K4_0 (Int64.ofNat o) (Int64.ofNat (2 * q + 1)))), .second, .val (.long (K5_0 ((Int64.ofNat (2 * q + 1)) - (Int64.ofNat o)))), .second, .val (.long ((Int64.ofNat (2 * q + 1)) - (Int64.ofNat o))), .second]) X5 hx (hb hby d1_96) (pc' := 98) rfl rfl ?_
        refine w_goto X5 hx (hb hby d1_98) (pc' := 58) (by decide) (by decide) ?_
        rw [own_min ho2 (by omega), own_abs ho2 (by omega)]
        have hq := ih _ _ X5 e5 N5 (min o (2 * q + 1)) (own_dst o (2 * q + 1)) (.val (.long ((Int64.ofNat (2 * q + 1)) - (Int64.ofNat o)))) .second hm1 (own_modd ho) (own_dlt ho2 (by omega)).1 (own_dlt ho2 (by omega)).2 (Or.inr ⟨_, rfl, rfl⟩)
        rw [own_mn] at hq
        rw [hrq, own_g1 ho]
        exact hq
    · refine w_lload X hx (hb hby d1_58) (pc' := 60) rfl rfl ?_
      refine w_lconst (v := 0) X hx (hb hby d1_60) (pc' := 61) rfl rfl ?_
      refine w_lcmp X hx (hb hby d1_61) (pc' := 62) rfl ?_
      refine w_ifL_eq X hx (hb hby d1_62) (pf := 65) (pt := 101) rfl (by decide) (by decide) (fun hc62 => ?_) (fun hc62 => ?_)
      · refine w_lload X hx (hb hby d1_101) (pc' := 103) rfl rfl ?_
        refine w_iload X hx (hb hby d1_103) (pc' := 105) rfl rfl ?_
        refine w_lshl X hx (hb hby d1_105) (pc' := 106) rfl ?_
        exact w_retJ X hx hret hlk (hb hby d1_106) (by decide) (by decide) ⟨by rw [own_lp hr hc62], N0, e0⟩
      · refine w_lload X hx (hb hby d1_65) (pc' := 67) rfl rfl ?_
        refine w_lload X hx (hb hby d1_67) (pc' := 69) rfl rfl ?_
        refine w_callS (argsL := [(.long (Int64.ofNat r))]) (rest := [(.long (Int64.ofNat r))]) X hx hZ hown e0 (rm2 l Z a0 hw (Int64.ofNat r) h0 n0) (hw _ (List.mem_of_getElem? (i := 7) rfl)) (hw _ (List.mem_of_getElem? (i := 8) rfl)) (hw _ (List.mem_of_getElem? (i := 9) rfl)) (hw _ (List.mem_of_getElem? (i := 10) rfl)) (by decide) (by decide) (W := 2) (by decide) (by decide) (by decide) (by rw [hml]; rfl) (lenOf pd_1 rfl) (Nat.le_refl _) rfl (hb hby d1_69) (pc' := 72) rfl (fun T6 L6 v6 X6 hQ6 => ?_)
        obtain ⟨rfl, N6q, e6⟩ := hQ6
        have N6 := Fr.app N0 N6q
        have X6 : Stand p l e ({ frames := 2, cells := 0, slots := 0, locals := 39 } : Room) s m _ below meth c T6 _ 0 0 := X6
        show Go p e below s 0 0 _ T6 (mkF m 72 #[.val (.long x0), .second, .val (.long x2), .second, .val (.int shv), .val (.long (Int64.ofNat o)), .second, .val (.long (Int64.ofNat r)), .second, .val (.long d), .second] [(.int (K2_0 (Int64.ofNat r))), (.long (Int64.ofNat r))])
        refine w_lshr X6 hx (hb hby d1_72) (pc' := 73) rfl ?_
        refine w_lstore (Ls' := #[.val (.long x0), .second, .val (.long x2), .second, .val (.int shv), .val (.long (Int64.ofNat o)), .second, .val (.long ((Int64.ofNat r) >>> ((K2_0 (Int64.ofNat r)) &&& 0x3f).toInt64)), .second, .val (.long d), .second]) X6 hx (hb hby d1_73) (pc' := 75) rfl rfl ?_
        obtain ⟨ot, hot⟩ : ∃ z : Int64, z = ((Int64.ofNat r) >>> ((K2_0 (Int64.ofNat r)) &&& 0x3f).toInt64) := ⟨_, rfl⟩
        rw [← hot]
        have hr0 : r ≠ 0 := fun q => hc62 ((own_z hr).2 q)
        obtain ⟨t, q, hrq, ht, hoq⟩ := own_odd hr0 hr hot
        rw [hoq]
        obtain ⟨hm1, hm2⟩ := own_meas hn ho hrq
        refine w_lload X6 hx (hb hby d1_75) (pc' := 77) rfl rfl ?_
        refine w_lload X6 hx (hb hby d1_77) (pc' := 79) rfl rfl ?_
        refine w_lsub X6 hx (hb hby d1_79) (pc' := 80) rfl ?_
        refine w_lstore (Ls' := #[.val (.long x0), .second, .val (.long x2), .second, .val (.int shv), .val (.long (Int64.ofNat o)), .second, .val (.long (Int64.ofNat (2 * q + 1))), .second, .val (.long ((Int64.ofNat (2 * q + 1)) - (Int64.ofNat o))), .second]) X6 hx (hb hby d1_80) (pc' := 82) rfl rfl ?_
        refine w_lload X6 hx (hb hby d1_82) (pc' := 84) rfl rfl ?_
        refine w_lload X6 hx (hb hby d1_84) (pc' := 86) rfl rfl ?_
        refine w_callS (argsL := [(.long (Int64.ofNat o)), (.long (Int64.ofNat (2 * q + 1)))]) (rest := []) X6 hx hZ hown e6 (rm4 l Z a0 hw (Int64.ofNat o) (Int64.ofNat (2 * q + 1)) h0 n0) (hw _ (List.mem_of_getElem? (i := 16) rfl)) (hw _ (List.mem_of_getElem? (i := 17) rfl)) (hw _ (List.mem_of_getElem? (i := 18) rfl)) (hw _ (List.mem_of_getElem? (i := 19) rfl)) (by decide) (by decide) (W := 0) (by decide) (by decide) (by decide) (by rw [hml]; rfl) (lenOf pd_2 rfl) (Nat.le_refl _) rfl (hb hby d1_86) (pc' := 89) rfl (fun T7 L7 v7 X7 hQ7 => ?_)
        obtain ⟨rfl, N7q, e7⟩ := hQ7
        have N7 := Fr.app N6 N7q
        have X7 : Stand p l e ({ frames := 2, cells := 0, slots := 0, locals := 39 } : Room) s m _ below meth c T7 _ 0 0 := X7
        show Go p e below s 0 0 _ T7 (mkF m 89 #[.val (.long x0), .second, .val (.long x2), .second, .val (.int shv), .val (.long (Int64.ofNat o)), .second, .val (.long (Int64.ofNat (2 * q + 1))), .second, .val (.long ((Int64.ofNat (2 * q + 1)) - (Int64.ofNat o))), .second] [(.long (K4_0 (Int64.ofNat o) (Int64.ofNat (2 * q + 1))))])
        refine w_lstore (Ls' := #[.val (.long x0), .second, .val (.long x2), .second, .val (.int shv), .val (.long (K4_0 (Int64.ofNat o) (Int64.ofNat (2 * q + 1)))), .second, .val (.long (Int64.ofNat (2 * q + 1))), .second, .val (.long ((Int64.ofNat (2 * q + 1)) - (Int64.ofNat o))), .second]) X7 hx (hb hby d1_89) (pc' := 91) rfl rfl ?_
        refine w_lload X7 hx (hb hby d1_91) (pc' := 93) rfl rfl ?_
        refine w_callS (argsL := [(.long ((Int64.ofNat (2 * q + 1)) - (Int64.ofNat o)))]) (rest := []) X7 hx hZ hown e7 (rm5 l Z a0 hw ((Int64.ofNat (2 * q + 1)) - (Int64.ofNat o)) h0 n0) (hw _ (List.mem_of_getElem? (i := 20) rfl)) (hw _ (List.mem_of_getElem? (i := 21) rfl)) (hw _ (List.mem_of_getElem? (i := 18) rfl)) (hw _ (List.mem_of_getElem? (i := 22) rfl)) (by decide) (by decide) (W := 0) (by decide) (by decide) (by decide) (by rw [hml]; rfl) (lenOf pd_3 rfl) (Nat.le_refl _) rfl (hb hby d1_93) (pc' := 96) rfl (fun T8 L8 v8 X8 hQ8 => ?_)
        obtain ⟨rfl, N8q, e8⟩ := hQ8
        have N8 := Fr.app N7 N8q
        have X8 : Stand p l e ({ frames := 2, cells := 0, slots := 0, locals := 39 } : Room) s m _ below meth c T8 _ 0 0 := X8
        show Go p e below s 0 0 _ T8 (mkF m 96 #[.val (.long x0), .second, .val (.long x2), .second, .val (.int shv), .val (.long (K4_0 (Int64.ofNat o) (Int64.ofNat (2 * q + 1)))), .second, .val (.long (Int64.ofNat (2 * q + 1))), .second, .val (.long ((Int64.ofNat (2 * q + 1)) - (Int64.ofNat o))), .second] [(.long (K5_0 ((Int64.ofNat (2 * q + 1)) - (Int64.ofNat o))))])
        refine w_lstore (Ls' := #[.val (.long x0), .second, .val (.long x2), .second, .val (.int shv), .val (.long (K4_0 (Int64.ofNat o) (Int64.ofNat (2 * q + 1)))), .second, .val (.long (K5_0 ((Int64.ofNat (2 * q + 1)) - (Int64.ofNat o)))), .second, .val (.long ((Int64.ofNat (2 * q + 1)) - (Int64.ofNat o))), .second]) X8 hx (hb hby d1_96) (pc' := 98) rfl rfl ?_
        refine w_goto X8 hx (hb hby d1_98) (pc' := 58) (by decide) (by decide) ?_
        rw [own_min ho2 (by omega), own_abs ho2 (by omega)]
        have hq := ih _ _ X8 e8 N8 (min o (2 * q + 1)) (own_dst o (2 * q + 1)) (.val (.long ((Int64.ofNat (2 * q + 1)) - (Int64.ofNat o)))) .second hm1 (own_modd ho) (own_dlt ho2 (by omega)).1 (own_dlt ho2 (by omega)).2 (Or.inr ⟨_, rfl, rfl⟩)
        rw [own_mn] at hq
        rw [hrq, own_g1 ho]
        exact hq
theorem ef_1 (m : MethodId) (x0 x1 : Int64) : entryFrame m #[(.long x0), (.long x1)] 11 = mkF m 0 #[.val (.long x0), .second, .val (.long x1), .second, .unset, .unset, .unset, .unset, .unset, .unset, .unset] [] := by first | (simp [entryFrame, mkF, argsToLocals, Value.category]; done) | rfl
set_option maxRecDepth 65536 in
set_option maxHeartbeats 40000000 in
theorem rm1n (l : Launch) (Z : State) (a0 : Array Value) (hw : ∀ d ∈ tables_1, d.before a0 Z = true) (a b : Nat) (h0 : Heap) (n0 : Nat) (ha : a < 2 ^ 63) (hb_ : b < 2 ^ 63) :
    Con l Z (⟨"com/example/curves_to_bounds/curvestobounds/Gcd", "of", "(JJ)J"⟩ : MethodName) prog_24_method_2_code 11 (some .long) ({ frames := 2, cells := 0, slots := 0, locals := 39 } : Room) #[(.long (Int64.ofNat a)), (.long (Int64.ofNat b))] h0 (QP (some (.long (Int64.ofNat (Nat.gcd a b)))) h0 n0) := by
  refine Con.of (plainFor_of_name (by first | (simp [plainName, overriddenIn]; done) | decide +kernel)) ?_
  intro p e s m below meth c T X hx hZ hby hml hown hnm hret hlk e0
  rw [ef_1]
  have N0 := Fr.nil n0
  refine w_lloadN X hx (hb hby d1_0) (pc' := 1) rfl rfl ?_
  refine w_lloadN X hx (hb hby d1_1) (pc' := 2) rfl rfl ?_
  refine w_lor X hx (hb hby d1_2) (pc' := 3) rfl ?_
  refine w_lconst (v := 0) X hx (hb hby d1_3) (pc' := 4) rfl rfl ?_
  refine w_lcmp X hx (hb hby d1_4) (pc' := 5) rfl ?_
  have hf5 : ¬ (((Int64.ofNat a) ||| (Int64.ofNat b)) < (0 : Int64)) := own_orp ha hb_
  refine w_ifL_ge X hx (hb hby d1_5) (pf := 8) (pt := 23) rfl (by decide) (by decide) (fun hc5 => ?_) (fun hc => absurd hc hf5)
  refine w_lloadN X hx (hb hby d1_23) (pc' := 24) rfl rfl ?_
  refine w_lconst (v := 0) X hx (hb hby d1_24) (pc' := 25) rfl rfl ?_
  refine w_lcmp X hx (hb hby d1_25) (pc' := 26) rfl ?_
  refine w_ifL_eq X hx (hb hby d1_26) (pf := 29) (pt := 35) rfl (by decide) (by decide) (fun hc26 => ?_) (fun hc26 => ?_)
  · refine w_lloadN X hx (hb hby d1_35) (pc' := 36) rfl rfl ?_
    refine w_lloadN X hx (hb hby d1_36) (pc' := 37) rfl rfl ?_
    refine w_lor X hx (hb hby d1_37) (pc' := 38) rfl ?_
    exact w_retJ X hx hret hlk (hb hby d1_38) (by decide) (by decide) ⟨by first | rw [own_r1 ha hb_ hc26] | rw [own_r2 ha hb_ hc32], N0, e0⟩
  · refine w_lloadN X hx (hb hby d1_29) (pc' := 30) rfl rfl ?_
    refine w_lconst (v := 0) X hx (hb hby d1_30) (pc' := 31) rfl rfl ?_
    refine w_lcmp X hx (hb hby d1_31) (pc' := 32) rfl ?_
    refine w_ifL_ne X hx (hb hby d1_32) (pf := 35) (pt := 39) rfl (by decide) (by decide) (fun hc32 => ?_) (fun hc32 => ?_)
    · refine w_lloadN X hx (hb hby d1_39) (pc' := 40) rfl rfl ?_
      refine w_lloadN X hx (hb hby d1_40) (pc' := 41) rfl rfl ?_
      refine w_lor X hx (hb hby d1_41) (pc' := 42) rfl ?_
      refine w_callS (argsL := [(.long ((Int64.ofNat a) ||| (Int64.ofNat b)))]) (rest := []) X hx hZ hown e0 (rm2 l Z a0 hw ((Int64.ofNat a) ||| (Int64.ofNat b)) h0 n0) (hw _ (List.mem_of_getElem? (i := 7) rfl)) (hw _ (List.mem_of_getElem? (i := 8) rfl)) (hw _ (List.mem_of_getElem? (i := 9) rfl)) (hw _ (List.mem_of_getElem? (i := 10) rfl)) (by decide) (by decide) (W := 0) (by decide) (by decide) (by decide) (by rw [hml]; rfl) (lenOf pd_1 rfl) (Nat.le_refl _) rfl (hb hby d1_42) (pc' := 45) rfl (fun T9 L9 v9 X9 hQ9 => ?_)
      obtain ⟨rfl, N9q, e9⟩ := hQ9
      have N9 := Fr.app N0 N9q
      have X9 : Stand p l e ({ frames := 2, cells := 0, slots := 0, locals := 39 } : Room) s m _ below meth c T9 _ 0 0 := X9
      show Go p e below s 0 0 _ T9 (mkF m 45 #[.val (.long (Int64.ofNat a)), .second, .val (.long (Int64.ofNat b)), .second, .unset, .unset, .unset, .unset, .unset, .unset, .unset] [(.int (K2_0 ((Int64.ofNat a) ||| (Int64.ofNat b))))])
      refine w_istore (Ls' := #[.val (.long (Int64.ofNat a)), .second, .val (.long (Int64.ofNat b)), .second, .val (.int (K2_0 ((Int64.ofNat a) ||| (Int64.ofNat b)))), .unset, .unset, .unset, .unset, .unset, .unset]) X9 hx (hb hby d1_45) (pc' := 47) rfl rfl ?_
      obtain ⟨shv, hshv⟩ : ∃ z : Int32, z = (K2_0 ((Int64.ofNat a) ||| (Int64.ofNat b))) := ⟨_, rfl⟩
      rw [← hshv]
      refine w_lloadN X9 hx (hb hby d1_47) (pc' := 48) rfl rfl ?_
      refine w_lloadN X9 hx (hb hby d1_48) (pc' := 49) rfl rfl ?_
      refine w_callS (argsL := [(.long (Int64.ofNat a))]) (rest := [(.long (Int64.ofNat a))]) X9 hx hZ hown e9 (rm2 l Z a0 hw (Int64.ofNat a) h0 n0) (hw _ (List.mem_of_getElem? (i := 7) rfl)) (hw _ (List.mem_of_getElem? (i := 8) rfl)) (hw _ (List.mem_of_getElem? (i := 9) rfl)) (hw _ (List.mem_of_getElem? (i := 10) rfl)) (by decide) (by decide) (W := 2) (by decide) (by decide) (by decide) (by rw [hml]; rfl) (lenOf pd_1 rfl) (Nat.le_refl _) rfl (hb hby d1_49) (pc' := 52) rfl (fun T10 L10 v10 X10 hQ10 => ?_)
      obtain ⟨rfl, N10q, e10⟩ := hQ10
      have N10 := Fr.app N9 N10q
      have X10 : Stand p l e ({ frames := 2, cells := 0, slots := 0, locals := 39 } : Room) s m _ below meth c T10 _ 0 0 := X10
      show Go p e below s 0 0 _ T10 (mkF m 52 #[.val (.long (Int64.ofNat a)), .second, .val (.long (Int64.ofNat b)), .second, .val (.int shv), .unset, .unset, .unset, .unset, .unset, .unset] [(.int (K2_0 (Int64.ofNat a))), (.long (Int64.ofNat a))])
      refine w_lshr X10 hx (hb hby d1_52) (pc' := 53) rfl ?_
      refine w_lstore (Ls' := #[.val (.long (Int64.ofNat a)), .second, .val (.long (Int64.ofNat b)), .second, .val (.int shv), .val (.long ((Int64.ofNat a) >>> ((K2_0 (Int64.ofNat a)) &&& 0x3f).toInt64)), .second, .unset, .unset, .unset, .unset]) X10 hx (hb hby d1_53) (pc' := 55) rfl rfl ?_
      obtain ⟨od, hod⟩ : ∃ z : Int64, z = ((Int64.ofNat a) >>> ((K2_0 (Int64.ofNat a)) &&& 0x3f).toInt64) := ⟨_, rfl⟩
      rw [← hod]
      have ha0 : a ≠ 0 := fun q => hc26 ((own_z ha).2 q)
      have hb0 : b ≠ 0 := fun q => hc32 ((own_z hb_).2 q)
      obtain ⟨ta, qa, haq, hta, hoq⟩ := own_odd ha0 ha hod
      rw [hoq]
      have hle : 2 * qa + 1 ≤ a := by rw [haq]; exact Nat.le_mul_of_pos_left _ (Nat.two_pow_pos ta)
      refine w_lloadN X10 hx (hb hby d1_55) (pc' := 56) rfl rfl ?_
      refine w_lstore (Ls' := #[.val (.long (Int64.ofNat a)), .second, .val (.long (Int64.ofNat b)), .second, .val (.int shv), .val (.long (Int64.ofNat (2 * qa + 1))), .second, .val (.long (Int64.ofNat b)), .second, .unset, .unset]) X10 hx (hb hby d1_56) (pc' := 58) rfl rfl ?_
      have hq := lp1 hx hZ hw hby hml hown hret hlk (Int64.ofNat a) (Int64.ofNat b) shv (2 * qa + 1 + b + 1) _ _ X10 e10 N10 (2 * qa + 1) b .unset .unset (by omega) (by omega) (by omega) hb_ (Or.inl ⟨rfl, rfl⟩)
      rw [own_fin ha hb_ haq hb0 hshv] at hq
      exact hq
    · refine w_lloadN X hx (hb hby d1_35) (pc' := 36) rfl rfl ?_
      refine w_lloadN X hx (hb hby d1_36) (pc' := 37) rfl rfl ?_
      refine w_lor X hx (hb hby d1_37) (pc' := 38) rfl ?_
      exact w_retJ X hx hret hlk (hb hby d1_38) (by decide) (by decide) ⟨by first | rw [own_r1 ha hb_ hc26] | rw [own_r2 ha hb_ hc32], N0, e0⟩
def own_gcd (a b : Int64) : Int64 := Int64.ofNat (Nat.gcd a.toInt.toNat b.toInt.toNat)
theorem rm1 (l : Launch) (Z : State) (a0 : Array Value) (hw : ∀ d ∈ tables_1, d.before a0 Z = true) (x0 x1 : Int64) (h0 : Heap) (n0 : Nat) (hx0 : 0 ≤ x0.toInt) (hx1 : 0 ≤ x1.toInt) :
    Con l Z (⟨"com/example/curves_to_bounds/curvestobounds/Gcd", "of", "(JJ)J"⟩ : MethodName) prog_24_method_2_code 11 (some .long) ({ frames := 2, cells := 0, slots := 0, locals := 39 } : Room) #[(.long x0), (.long x1)] h0 (QP (some (.long (own_gcd x0 x1))) h0 n0) := by
  obtain ⟨a, ha, rfl, ea⟩ := own_on hx0
  obtain ⟨b, hb, rfl, eb⟩ := own_on hx1
  rw [own_gcd, ea, eb]
  exact rm1n l Z a0 hw a b h0 n0 ha hb
theorem own_mx (x : Int64) : 0 ≤ (x &&& 9223372036854775807).toInt := by
  have e1 : (x &&& 9223372036854775807).toInt = x.toInt % 2 ^ 63 := Jvm.Kit.i64_mask x 9223372036854775807 (k := 63) (by decide) (by decide)
  omega
theorem own_va {x v : Int64} {z : Int32} {a b c : Int64} (ha : a = 0 ∨ a = x &&& 9223372036854775807) (hb : b = 0 ∨ b = x &&& 9223372036854775807) (hc : c = 0 ∨ c = x &&& 9223372036854775807) {d : Int64} (hd : d = 0 ∨ d = x &&& 9223372036854775807) (h : v = (if z = 1 then a else (if z = 2 then b else (if z = 3 then c else d)))) : 0 ≤ v.toInt := by
  have hx := own_mx x
  have key : ∀ w : Int64, (w = 0 ∨ w = x &&& 9223372036854775807) → 0 ≤ w.toInt := fun w hw => by
    rcases hw with rfl | rfl
    · decide
    · exact hx
  rw [h]
  repeat' split
  all_goals first | exact key _ ha | exact key _ hb | exact key _ hc | exact key _ hd
theorem own_gi {x y : Int64} (hx : 0 ≤ x.toInt) (hy : 0 ≤ y.toInt) : (own_gcd x y).toInt = Nat.gcd x.toInt.toNat y.toInt.toNat := by
  rw [own_gcd]
  apply own_oi
  have h1 := x.toInt_lt
  have h2 := y.toInt_lt
  rcases Nat.eq_zero_or_pos y.toInt.toNat with h | h
  · rw [h, Nat.gcd_zero_right]; omega
  · have := Nat.gcd_le_right x.toInt.toNat h; omega
theorem own_zero64 : (0 : Int64).toInt = 0 := rfl
theorem own_eq64 {x y : Int64} (h : x.toInt = y.toInt) : x = y := Int64.toInt_inj.mp h
theorem own_a0 {x y g : Int64} (hy : 0 ≤ y.toInt) (h : x = 0) (hg : g = own_gcd x y) : g = y := by
  apply own_eq64
  rw [hg, own_gi (by rw [h]; decide) hy, h, own_zero64]
  show ((Nat.gcd 0 y.toInt.toNat : Nat) : Int) = _
  rw [Nat.gcd_zero_left]; omega
theorem own_b0 {x y g : Int64} (hx : 0 ≤ x.toInt) (h : y = 0) (hg : g = own_gcd x y) : g = x := by
  apply own_eq64
  rw [hg, own_gi hx (by rw [h]; decide), h, own_zero64]
  show ((Nat.gcd x.toInt.toNat 0 : Nat) : Int) = _
  rw [Nat.gcd_zero_right]; omega
theorem own_rem0 {x y : Int64} (hx : 0 ≤ x.toInt) (h : y.toInt ∣ x.toInt) : x % y = 0 := by
  apply own_eq64
  rw [Int64.toInt_mod, Int.tmod_eq_emod_of_nonneg hx, own_zero64]
  exact Int.emod_eq_zero_of_dvd h
theorem own_ne64 {x : Int64} (h : ¬ x = 0) (hx : 0 ≤ x.toInt) : 0 < x.toInt.toNat := by
  have : x.toInt ≠ 0 := fun q => h (own_eq64 q)
  omega
theorem own_gpos {x y g : Int64} (hx : 0 ≤ x.toInt) (hy : 0 ≤ y.toInt) (h : ¬ x = 0 ∨ ¬ y = 0) (hg : g = own_gcd x y) : 0 < g ∧ x % g = 0 ∧ y % g = 0 ∧ g ≠ 0 ∧ 0 ≤ g.toInt := by
  have e := own_gi hx hy
  rw [← hg] at e
  have hp : 0 < Nat.gcd x.toInt.toNat y.toInt.toNat := by
    rcases h with h | h
    · exact Nat.gcd_pos_of_pos_left _ (own_ne64 h hx)
    · exact Nat.gcd_pos_of_pos_right _ (own_ne64 h hy)
  have d1 : g.toInt ∣ x.toInt := by
    rw [e, show x.toInt = ((x.toInt.toNat : Nat) : Int) from by omega]
    exact Int.natCast_dvd_natCast.mpr (Nat.gcd_dvd_left _ _)
  have d2 : g.toInt ∣ y.toInt := by
    rw [e, show y.toInt = ((y.toInt.toNat : Nat) : Int) from by omega]
    exact Int.natCast_dvd_natCast.mpr (Nat.gcd_dvd_right _ _)
  refine ⟨by rw [Int64.lt_iff_toInt_lt, own_zero64]; omega, own_rem0 hx d1, own_rem0 hy d2, fun q => ?_, by omega⟩
  rw [q, own_zero64] at e
  omega
theorem own_two {x y g w : Int64} (hx : 0 ≤ x.toInt) (hy : 0 ≤ y.toInt) (nx : ¬ x = 0) (ny : ¬ y = 0) (hg : g = own_gcd x y) (hw : w = ((x ||| y) &&& (-(x ||| y)))) : w ≠ 0 ∧ g % w = 0 := by
  have e := own_gi hx hy
  rw [← hg] at e
  have px := own_ne64 nx hx
  have py := own_ne64 ny hy
  obtain ⟨a, ha, rfl, ea⟩ := own_on hx
  obtain ⟨b, hb, rfl, eb⟩ := own_on hy
  rw [ea, eb] at e
  rw [ea] at px
  rw [eb] at py
  simp only [Int.toNat_natCast] at e px py
  obtain ⟨ta, qa, ha2⟩ := own_dec a (by omega)
  obtain ⟨tb, qb, hb2⟩ := own_dec b (by omega)
  rw [own_p2] at ha2 hb2
  obtain ⟨Q, hQ⟩ := @own_ormin ta qa tb qb
  have gg := @own_gg ta qa tb qb
  rw [← ha2, ← hb2] at hQ gg
  have hc : a ||| b < 2 ^ 63 := Nat.or_lt_two_pow ha hb
  have hpm : 0 < 2 ^ (min ta tb) := Nat.two_pow_pos _
  have hw2 : w.toBitVec.toNat = 2 ^ (min ta tb) := by
    rw [hw, own_orb ha hb, Int64.toBitVec_and, BitVec.toNat_and, Int64.toBitVec_neg, BitVec.toNat_neg, own_ob (by omega), Nat.mod_eq_of_lt (by omega), hQ]
    exact own_top 64 _ Q (by omega)
  have hle : 2 ^ (min ta tb) ≤ a ||| b := by rw [hQ]; omega
  have hw3 : w.toInt = ((2 ^ (min ta tb) : Nat) : Int) := by
    have : w.toInt = w.toBitVec.toInt := rfl
    rw [this, BitVec.toInt_eq_toNat_cond, hw2, if_pos (by omega)]
  refine ⟨fun q => ?_, own_rem0 (by omega) ?_⟩
  · rw [q, own_zero64] at hw3
    omega
  · rw [e, hw3, gg]
    exact Int.natCast_dvd_natCast.mpr (Nat.dvd_mul_right _ _)
theorem own_mulN {A B : Nat} (h : A * B < 2 ^ 63) (ha : A < 2 ^ 63) (hb : B < 2 ^ 63) : Int64.ofNat A * Int64.ofNat B = Int64.ofNat (A * B) := by
  apply own_eq64
  have e : ((A * B : Nat) : Int) = A * B := by push_cast; rfl
  rw [Jvm.Kit.i64_mul (by rw [own_oi ha, own_oi hb, ← e]; omega) (by rw [own_oi ha, own_oi hb, ← e]; omega), own_oi ha, own_oi hb, own_oi h, e]
theorem own_sucN {A : Nat} (h : A + 1 < 2 ^ 63) : Int64.ofNat A + 1 = Int64.ofNat (A + 1) := by
  apply own_eq64
  have o : (1 : Int64).toInt = 1 := rfl
  rw [Jvm.Kit.i64_add (by rw [own_oi (by omega), o]; omega) (by rw [own_oi (by omega), o]; omega), own_oi (by omega), own_oi h, o]; omega
theorem own_mk {x m : Int64} {k : Nat} (hk : k < 63) (hm : m.toBitVec.toNat = 2 ^ k - 1) : ∃ A : Nat, A < 2 ^ k ∧ (x &&& m) = Int64.ofNat A := by
  have e1 := Jvm.Kit.i64_mask x m (k := k) (by omega) hm
  have hp : (0 : Int) < 2 ^ k := Int.pow_pos (by decide)
  have h1 := Int.emod_nonneg x.toInt (show (2 ^ k : Int) ≠ 0 by omega)
  have h2 := Int.emod_lt_of_pos x.toInt hp
  have h3 : (2 : Nat) ^ k < 2 ^ 63 := Nat.pow_lt_pow_right (by decide) hk
  have h4 : ((2 ^ k : Nat) : Int) = 2 ^ k := by push_cast; rfl
  refine ⟨(x.toInt % 2 ^ k).toNat, by omega, ?_⟩
  apply own_eq64
  rw [e1, own_oi (by omega)]; omega
theorem own_s2 {s t mk uu vv mu mv : Int64} (hmk : mk = (s &&& 2147483647) + 1) (huu : uu = ((jlushr s 33) &&& 2147483647)) (hvv : vv = (t &&& 2147483647)) (hmu : mu = mk * uu) (hmv : mv = mk * vv) : ∃ M U V : Nat, 0 < M ∧ M ≤ 2 ^ 31 ∧ U < 2 ^ 31 ∧ V < 2 ^ 31 ∧ mk = Int64.ofNat M ∧ mu = Int64.ofNat (M * U) ∧ mv = Int64.ofNat (M * V) ∧ M * U < 2 ^ 63 ∧ M * V < 2 ^ 63 := by
  obtain ⟨A, hA, eA⟩ := @own_mk s 2147483647 31 (by decide) (by decide)
  obtain ⟨U, hU, eU⟩ := @own_mk (jlushr s 33) 2147483647 31 (by decide) (by decide)
  obtain ⟨V, hV, eV⟩ := @own_mk t 2147483647 31 (by decide) (by decide)
  rw [eA, own_sucN (by omega)] at hmk
  have b1 : (A + 1) * U ≤ 2 ^ 31 * 2 ^ 31 := Nat.mul_le_mul (by omega) (by omega)
  have b2 : (A + 1) * V ≤ 2 ^ 31 * 2 ^ 31 := Nat.mul_le_mul (by omega) (by omega)
  refine ⟨A + 1, U, V, by omega, by omega, hU, hV, hmk, ?_, ?_, by omega, by omega⟩
  · rw [hmu, hmk, huu, eU, own_mulN (by omega) (by omega) (by omega)]
  · rw [hmv, hmk, hvv, eV, own_mulN (by omega) (by omega) (by omega)]
theorem own_s2p {s t mk uu vv mu mv : Int64} (hmk : mk = (s &&& 2147483647) + 1) (huu : uu = ((jlushr s 33) &&& 2147483647)) (hvv : vv = (t &&& 2147483647)) (hmu : mu = mk * uu) (hmv : mv = mk * vv) : 0 ≤ mu.toInt ∧ 0 ≤ mv.toInt ∧ mk ≠ 0 := by
  obtain ⟨M, U, V, h1, h2, h3, h4, e1, e2, e3, b1, b2⟩ := own_s2 hmk huu hvv hmu hmv
  refine ⟨by rw [e2, own_oi b1]; omega, by rw [e3, own_oi b2]; omega, fun q => ?_⟩
  rw [e1, own_z (by omega)] at q
  omega
theorem own_s2d {s t mk uu vv mu mv g : Int64} (hmk : mk = (s &&& 2147483647) + 1) (huu : uu = ((jlushr s 33) &&& 2147483647)) (hvv : vv = (t &&& 2147483647)) (hmu : mu = mk * uu) (hmv : mv = mk * vv) (hg : g = own_gcd mu mv) : g % mk = 0 := by
  have hp := own_s2p hmk huu hvv hmu hmv
  have e := own_gi hp.1 hp.2.1
  rw [← hg] at e
  obtain ⟨M, U, V, h1, h2, h3, h4, e1, e2, e3, b1, b2⟩ := own_s2 hmk huu hvv hmu hmv
  apply own_rem0 (by omega)
  rw [e, e1, e2, e3, own_oi (by omega), own_oi b1, own_oi b2]
  simp only [Int.toNat_natCast]
  exact Int.natCast_dvd_natCast.mpr (Nat.dvd_gcd (Nat.dvd_mul_right _ _) (Nat.dvd_mul_right _ _))
theorem own_s3 {r dd xx kk yy cc ee : Int64} (hdd : dd = (r &&& 1048575) + 1) (hxx : xx = ((jlushr r 20) &&& 1048575) + 1) (hkk : kk = ((jlushr r 40) &&& 1048575)) (hyy : yy = kk * xx + 1) (hcc : cc = dd * xx) (hee : ee = dd * yy) : ∃ D X K : Nat, 0 < D ∧ D ≤ 2 ^ 20 ∧ dd = Int64.ofNat D ∧ cc = Int64.ofNat (D * X) ∧ ee = Int64.ofNat (D * (K * X + 1)) ∧ D * X < 2 ^ 63 ∧ D * (K * X + 1) < 2 ^ 63 := by
  obtain ⟨A, hA, eA⟩ := @own_mk r 1048575 20 (by decide) (by decide)
  obtain ⟨B, hB, eB⟩ := @own_mk (jlushr r 20) 1048575 20 (by decide) (by decide)
  obtain ⟨K, hK, eK⟩ := @own_mk (jlushr r 40) 1048575 20 (by decide) (by decide)
  rw [eA, own_sucN (by omega)] at hdd
  rw [eB, own_sucN (by omega)] at hxx
  have b1 : K * (B + 1) ≤ 2 ^ 20 * 2 ^ 20 := Nat.mul_le_mul (by omega) (by omega)
  have b2 : (A + 1) * (B + 1) ≤ 2 ^ 20 * 2 ^ 20 := Nat.mul_le_mul (by omega) (by omega)
  have b3 : (A + 1) * (K * (B + 1) + 1) ≤ 2 ^ 20 * 2 ^ 41 := Nat.mul_le_mul (by omega) (by omega)
  have ey : yy = Int64.ofNat (K * (B + 1) + 1) := by rw [hyy, hkk, eK, hxx, own_mulN (by omega) (by omega) (by omega), own_sucN (by omega)]
  refine ⟨A + 1, B + 1, K, by omega, by omega, hdd, ?_, ?_, by omega, by omega⟩
  · rw [hcc, hdd, hxx, own_mulN (by omega) (by omega) (by omega)]
  · rw [hee, hdd, ey, own_mulN (by omega) (by omega) (by omega)]
theorem own_s3p {r dd xx kk yy cc ee : Int64} (hdd : dd = (r &&& 1048575) + 1) (hxx : xx = ((jlushr r 20) &&& 1048575) + 1) (hkk : kk = ((jlushr r 40) &&& 1048575)) (hyy : yy = kk * xx + 1) (hcc : cc = dd * xx) (hee : ee = dd * yy) : 0 ≤ cc.toInt ∧ 0 ≤ ee.toInt := by
  obtain ⟨D, X, K, h1, h2, e1, e2, e3, b1, b2⟩ := own_s3 hdd hxx hkk hyy hcc hee
  exact ⟨by rw [e2, own_oi b1]; omega, by rw [e3, own_oi b2]; omega⟩
theorem own_s3d {r dd xx kk yy cc ee h : Int64} (hdd : dd = (r &&& 1048575) + 1) (hxx : xx = ((jlushr r 20) &&& 1048575) + 1) (hkk : kk = ((jlushr r 40) &&& 1048575)) (hyy : yy = kk * xx + 1) (hcc : cc = dd * xx) (hee : ee = dd * yy) (hh : h = own_gcd cc ee ∨ h = own_gcd ee cc) : h = dd := by
  have hp := own_s3p hdd hxx hkk hyy hcc hee
  have key : own_gcd cc ee = dd := by
    have e := own_gi hp.1 hp.2
    obtain ⟨D, X, K, h1, h2, e1, e2, e3, b1, b2⟩ := own_s3 hdd hxx hkk hyy hcc hee
    apply own_eq64
    rw [e, e1, e2, e3, own_oi b1, own_oi b2, own_oi (a := D) (by omega)]
    simp only [Int.toNat_natCast]
    rw [Nat.gcd_mul_left, Nat.gcd_mul_right_add_right, Nat.gcd_one_right, Nat.mul_one]
  rcases hh with hh | hh
  · rw [hh, key]
  · rw [hh, own_gcd, Nat.gcd_comm, ← own_gcd, key]
theorem ef_0 (m : MethodId) (x0 : Int64) (x1 : Int64) (x2 : Int64) (x3 : Int64) (x4 : Int64) (x5 : Int32) : entryFrame m #[(.long x0), (.long x1), (.long x2), (.long x3), (.long x4), (.int x5)] maxLocals = mkF m 0 #[.val (.long x0), .second, .val (.long x1), .second, .val (.long x2), .second, .val (.long x3), .second, .val (.long x4), .second, .val (.int x5), .unset, .unset, .unset, .unset, .unset, .unset, .unset, .unset, .unset, .unset, .unset, .unset, .unset, .unset, .unset, .unset, .unset, .unset, .unset, .unset, .unset, .unset, .unset, .unset, .unset, .unset, .unset, .unset, .unset, .unset, .unset, .unset, .unset, .unset] [] := by first | (simp [entryFrame, mkF, argsToLocals, Value.category, maxLocals]; done) | rfl
set_option maxRecDepth 65536 in
set_option maxHeartbeats 40000000 in
theorem rm0 (l : Launch) (Z : State) (a0 : Array Value) (hw : ∀ d ∈ tables_1, d.before a0 Z = true) (x0 : Int64) (x1 : Int64) (x2 : Int64) (x3 : Int64) (x4 : Int64) (x5 : Int32) (h0 : Heap) (n0 : Nat) (Z0 : n0 ≤ h0.size) :
    Con l Z x code maxLocals ret room_1 #[(.long x0), (.long x1), (.long x2), (.long x3), (.long x4), (.int x5)] h0 (QL (some (.int 1)) n0) := by
  refine Con.of (plainFor_of_name (by first | (simp [plainName, overriddenIn]; done) | decide +kernel)) ?_
  intro p e s m below meth c T X hx hZ hby hml hown hnm hret hlk e0
  rw [ef_0]
  have N0 := Fr.nil n0
  show Go p e below s room_1.cells room_1.slots (QL (some (.int 1)) n0) T (mkF m 0 #[.val (.long x0), .second, .val (.long x1), .second, .val (.long x2), .second, .val (.long x3), .second, .val (.long x4), .second, .val (.int x5), .unset, .unset, .unset, .unset, .unset, .unset, .unset, .unset, .unset, .unset, .unset, .unset, .unset, .unset, .unset, .unset, .unset, .unset, .unset, .unset, .unset, .unset, .unset, .unset, .unset, .unset, .unset, .unset, .unset, .unset, .unset, .unset, .unset, .unset] [])
  refine w_lloadN X hx (hb hby at_0) (pc' := 1) rfl rfl ?_
  refine w_ldc2 X hx hZ hown (hw _ (List.mem_of_getElem? (i := 0) rfl)) (hb hby at_1) (pc' := 4) rfl ?_
  refine w_land X hx (hb hby at_4) (pc' := 5) rfl ?_
  refine w_lstore (Ls' := #[.val (.long x0), .second, .val (.long x1), .second, .val (.long x2), .second, .val (.long x3), .second, .val (.long x4), .second, .val (.int x5), .val (.long (x0 &&& (9223372036854775807 : Int64))), .second, .unset, .unset, .unset, .unset, .unset, .unset, .unset, .unset, .unset, .unset, .unset, .unset, .unset, .unset, .unset, .unset, .unset, .unset, .unset, .unset, .unset, .unset, .unset, .unset, .unset, .unset, .unset, .unset, .unset, .unset, .unset, .unset]) X hx (hb hby at_5) (pc' := 7) rfl rfl ?_
  obtain ⟨a1, ha1⟩ : ∃ z : Int64, z = (x0 &&& (9223372036854775807 : Int64)) := ⟨_, rfl⟩
  rw [← ha1]
  refine w_lloadN X hx (hb hby at_7) (pc' := 8) rfl rfl ?_
  refine w_ldc2 X hx hZ hown (hw _ (List.mem_of_getElem? (i := 0) rfl)) (hb hby at_8) (pc' := 11) rfl ?_
  refine w_land X hx (hb hby at_11) (pc' := 12) rfl ?_
  refine w_lstore (Ls' := #[.val (.long x0), .second, .val (.long x1), .second, .val (.long x2), .second, .val (.long x3), .second, .val (.long x4), .second, .val (.int x5), .val (.long a1), .second, .val (.long (x1 &&& (9223372036854775807 : Int64))), .second, .unset, .unset, .unset, .unset, .unset, .unset, .unset, .unset, .unset, .unset, .unset, .unset, .unset, .unset, .unset, .unset, .unset, .unset, .unset, .unset, .unset, .unset, .unset, .unset, .unset, .unset, .unset, .unset, .unset, .unset]) X hx (hb hby at_12) (pc' := 14) rfl rfl ?_
  obtain ⟨b1, hb1⟩ : ∃ z : Int64, z = (x1 &&& (9223372036854775807 : Int64)) := ⟨_, rfl⟩
  rw [← hb1]
  refine w_iload X hx (hb hby at_14) (pc' := 16) rfl rfl ?_
  refine w_iconst (v := 3) X hx (hb hby at_16) (pc' := 17) rfl rfl ?_
  refine w_iand X hx (hb hby at_17) (pc' := 18) rfl ?_
  refine w_istore (Ls' := #[.val (.long x0), .second, .val (.long x1), .second, .val (.long x2), .second, .val (.long x3), .second, .val (.long x4), .second, .val (.int x5), .val (.long a1), .second, .val (.long b1), .second, .val (.int (x5 &&& (3 : Int32))), .unset, .unset, .unset, .unset, .unset, .unset, .unset, .unset, .unset, .unset, .unset, .unset, .unset, .unset, .unset, .unset, .unset, .unset, .unset, .unset, .unset, .unset, .unset, .unset, .unset, .unset, .unset, .unset, .unset]) X hx (hb hby at_18) (pc' := 20) rfl rfl ?_
  obtain ⟨zz, hzz⟩ : ∃ z : Int32, z = (x5 &&& (3 : Int32)) := ⟨_, rfl⟩
  rw [← hzz]
  refine w_iload X hx (hb hby at_20) (pc' := 22) rfl rfl ?_
  refine w_iconst (v := 1) X hx (hb hby at_22) (pc' := 23) rfl rfl ?_
  have J56_13 : ∀ (v11 : Int64) (v12 : Int64), v11 = (if zz = (1 : Int32) then (0 : Int64) else (if zz = (2 : Int32) then a1 else (if zz = (3 : Int32) then (0 : Int64) else a1))) → v12 = (if zz = (1 : Int32) then b1 else (if zz = (2 : Int32) then (0 : Int64) else (if zz = (3 : Int32) then (0 : Int64) else b1))) → Go p e below s room_1.cells room_1.slots (QL (some (.int 1)) n0) T (mkF m 56 #[.val (.long x0), .second, .val (.long x1), .second, .val (.long x2), .second, .val (.long x3), .second, .val (.long x4), .second, .val (.int x5), .val (.long v11), .second, .val (.long v12), .second, .val (.int zz), .unset, .unset, .unset, .unset, .unset, .unset, .unset, .unset, .unset, .unset, .unset, .unset, .unset, .unset, .unset, .unset, .unset, .unset, .unset, .unset, .unset, .unset, .unset, .unset, .unset, .unset, .unset, .unset, .unset] []) := by
    intro v11 v12 hv11 hv12
    refine w_lload X hx (hb hby at_56) (pc' := 58) rfl rfl ?_
    refine w_lload X hx (hb hby at_58) (pc' := 60) rfl rfl ?_
    refine w_callS (argsL := [(.long v11), (.long v12)]) (rest := []) X hx hZ hown e0 (rm1 l Z a0 hw v11 v12 h0 n0 (own_va (by first | exact Or.inl rfl | exact Or.inr ha1) (by first | exact Or.inl rfl | exact Or.inr ha1) (by first | exact Or.inl rfl | exact Or.inr ha1) (by first | exact Or.inl rfl | exact Or.inr ha1) hv11) (own_va (by first | exact Or.inl rfl | exact Or.inr hb1) (by first | exact Or.inl rfl | exact Or.inr hb1) (by first | exact Or.inl rfl | exact Or.inr hb1) (by first | exact Or.inl rfl | exact Or.inr hb1) hv12)) (hw _ (List.mem_of_getElem? (i := 1) rfl)) (hw _ (List.mem_of_getElem? (i := 2) rfl)) (hw _ (List.mem_of_getElem? (i := 3) rfl)) (hw _ (List.mem_of_getElem? (i := 4) rfl)) (by decide) (by decide) (W := 0) (by decide) (by decide) (by decide) (by rw [hml]; rfl) (lenOf pd_2 rfl) (Nat.le_refl _) rfl (hb hby at_60) (pc' := 63) rfl (fun T14 L14 v14 X14 hQ14 => ?_)
    obtain ⟨rfl, N14q, e14⟩ := hQ14
    have N14 := Fr.app N0 N14q
    have X14 : Stand p l e room_1 s m _ below meth c T14 _ 0 0 := X14
    show Go p e below s room_1.cells room_1.slots (QL (some (.int 1)) n0) T14 (mkF m 63 #[.val (.long x0), .second, .val (.long x1), .second, .val (.long x2), .second, .val (.long x3), .second, .val (.long x4), .second, .val (.int x5), .val (.long v11), .second, .val (.long v12), .second, .val (.int zz), .unset, .unset, .unset, .unset, .unset, .unset, .unset, .unset, .unset, .unset, .unset, .unset, .unset, .unset, .unset, .unset, .unset, .unset, .unset, .unset, .unset, .unset, .unset, .unset, .unset, .unset, .unset, .unset, .unset] [(.long (own_gcd v11 v12))])
    refine w_lstore (Ls' := #[.val (.long x0), .second, .val (.long x1), .second, .val (.long x2), .second, .val (.long x3), .second, .val (.long x4), .second, .val (.int x5), .val (.long v11), .second, .val (.long v12), .second, .val (.int zz), .val (.long (own_gcd v11 v12)), .second, .unset, .unset, .unset, .unset, .unset, .unset, .unset, .unset, .unset, .unset, .unset, .unset, .unset, .unset, .unset, .unset, .unset, .unset, .unset, .unset, .unset, .unset, .unset, .unset, .unset, .unset, .unset]) X14 hx (hb hby at_63) (pc' := 65) rfl rfl ?_
    obtain ⟨gv, hgv⟩ : ∃ z : Int64, z = (own_gcd v11 v12) := ⟨_, rfl⟩
    rw [← hgv]
    refine w_lload X14 hx (hb hby at_65) (pc' := 67) rfl rfl ?_
    refine w_lconst (v := 0) X14 hx (hb hby at_67) (pc' := 68) rfl rfl ?_
    refine w_lcmp X14 hx (hb hby at_68) (pc' := 69) rfl ?_
    refine w_ifL_ne X14 hx (hb hby at_69) (pf := 72) (pt := 90) rfl (by decide) (by decide) (fun hc69 => ?_) (fun hc69 => ?_)
    · refine w_lload X14 hx (hb hby at_90) (pc' := 92) rfl rfl ?_
      refine w_lconst (v := 0) X14 hx (hb hby at_92) (pc' := 93) rfl rfl ?_
      refine w_lcmp X14 hx (hb hby at_93) (pc' := 94) rfl ?_
      refine w_ifL_ne X14 hx (hb hby at_94) (pf := 97) (pt := 115) rfl (by decide) (by decide) (fun hc94 => ?_) (fun hc94 => ?_)
      · refine w_lload X14 hx (hb hby at_115) (pc' := 117) rfl rfl ?_
        refine w_lload X14 hx (hb hby at_117) (pc' := 119) rfl rfl ?_
        refine w_lor X14 hx (hb hby at_119) (pc' := 120) rfl ?_
        refine w_lload X14 hx (hb hby at_120) (pc' := 122) rfl rfl ?_
        refine w_lload X14 hx (hb hby at_122) (pc' := 124) rfl rfl ?_
        refine w_lor X14 hx (hb hby at_124) (pc' := 125) rfl ?_
        refine w_lneg X14 hx (hb hby at_125) (pc' := 126) rfl ?_
        refine w_land X14 hx (hb hby at_126) (pc' := 127) rfl ?_
        refine w_lstore (Ls' := #[.val (.long x0), .second, .val (.long x1), .second, .val (.long x2), .second, .val (.long x3), .second, .val (.long x4), .second, .val (.int x5), .val (.long v11), .second, .val (.long v12), .second, .val (.int zz), .val (.long gv), .second, .unset, .val (.long ((v11 ||| v12) &&& (-(v11 ||| v12)))), .second, .unset, .unset, .unset, .unset, .unset, .unset, .unset, .unset, .unset, .unset, .unset, .unset, .unset, .unset, .unset, .unset, .unset, .unset, .unset, .unset, .unset, .unset, .unset, .unset]) X14 hx (hb hby at_127) (pc' := 129) rfl rfl ?_
        obtain ⟨two, htwo⟩ : ∃ z : Int64, z = ((v11 ||| v12) &&& (-(v11 ||| v12))) := ⟨_, rfl⟩
        rw [← htwo]
        refine w_lload X14 hx (hb hby at_129) (pc' := 131) rfl rfl ?_
        refine w_lconst (v := 0) X14 hx (hb hby at_131) (pc' := 132) rfl rfl ?_
        refine w_lcmp X14 hx (hb hby at_132) (pc' := 133) rfl ?_
        have hf133 : (0 : Int64) < gv := (own_gpos (own_va (by first | exact Or.inl rfl | exact Or.inr ha1) (by first | exact Or.inl rfl | exact Or.inr ha1) (by first | exact Or.inl rfl | exact Or.inr ha1) (by first | exact Or.inl rfl | exact Or.inr ha1) hv11) (own_va (by first | exact Or.inl rfl | exact Or.inr hb1) (by first | exact Or.inl rfl | exact Or.inr hb1) (by first | exact Or.inl rfl | exact Or.inr hb1) (by first | exact Or.inl rfl | exact Or.inr hb1) hv12) (Or.inl hc69) hgv).1
        refine w_ifL_le X14 hx (hb hby at_133) (pf := 136) (pt := 170) rfl (by decide) (by decide) (fun hc => absurd hf133 hc) (fun hc133 => ?_)
        refine w_lload X14 hx (hb hby at_136) (pc' := 138) rfl rfl ?_
        refine w_lload X14 hx (hb hby at_138) (pc' := 140) rfl rfl ?_
        refine w_lrem X14 hx (hb hby at_140) (pc' := 141) rfl (own_gpos (own_va (by first | exact Or.inl rfl | exact Or.inr ha1) (by first | exact Or.inl rfl | exact Or.inr ha1) (by first | exact Or.inl rfl | exact Or.inr ha1) (by first | exact Or.inl rfl | exact Or.inr ha1) hv11) (own_va (by first | exact Or.inl rfl | exact Or.inr hb1) (by first | exact Or.inl rfl | exact Or.inr hb1) (by first | exact Or.inl rfl | exact Or.inr hb1) (by first | exact Or.inl rfl | exact Or.inr hb1) hv12) (Or.inl hc69) hgv).2.2.2.1 ?_
        refine w_lconst (v := 0) X14 hx (hb hby at_141) (pc' := 142) rfl rfl ?_
        refine w_lcmp X14 hx (hb hby at_142) (pc' := 143) rfl ?_
        have hf143 : (v11 % gv) = (0 : Int64) := (own_gpos (own_va (by first | exact Or.inl rfl | exact Or.inr ha1) (by first | exact Or.inl rfl | exact Or.inr ha1) (by first | exact Or.inl rfl | exact Or.inr ha1) (by first | exact Or.inl rfl | exact Or.inr ha1) hv11) (own_va (by first | exact Or.inl rfl | exact Or.inr hb1) (by first | exact Or.inl rfl | exact Or.inr hb1) (by first | exact Or.inl rfl | exact Or.inr hb1) (by first | exact Or.inl rfl | exact Or.inr hb1) hv12) (Or.inl hc69) hgv).2.1
        refine w_ifL_ne X14 hx (hb hby at_143) (pf := 146) (pt := 170) rfl (by decide) (by decide) (fun hc => absurd hf143 hc) (fun hc143 => ?_)
        refine w_lload X14 hx (hb hby at_146) (pc' := 148) rfl rfl ?_
        refine w_lload X14 hx (hb hby at_148) (pc' := 150) rfl rfl ?_
        refine w_lrem X14 hx (hb hby at_150) (pc' := 151) rfl (own_gpos (own_va (by first | exact Or.inl rfl | exact Or.inr ha1) (by first | exact Or.inl rfl | exact Or.inr ha1) (by first | exact Or.inl rfl | exact Or.inr ha1) (by first | exact Or.inl rfl | exact Or.inr ha1) hv11) (own_va (by first | exact Or.inl rfl | exact Or.inr hb1) (by first | exact Or.inl rfl | exact Or.inr hb1) (by first | exact Or.inl rfl | exact Or.inr hb1) (by first | exact Or.inl rfl | exact Or.inr hb1) hv12) (Or.inl hc69) hgv).2.2.2.1 ?_
        refine w_lconst (v := 0) X14 hx (hb hby at_151) (pc' := 152) rfl rfl ?_
        refine w_lcmp X14 hx (hb hby at_152) (pc' := 153) rfl ?_
        have hf153 : (v12 % gv) = (0 : Int64) := (own_gpos (own_va (by first | exact Or.inl rfl | exact Or.inr ha1) (by first | exact Or.inl rfl | exact Or.inr ha1) (by first | exact Or.inl rfl | exact Or.inr ha1) (by first | exact Or.inl rfl | exact Or.inr ha1) hv11) (own_va (by first | exact Or.inl rfl | exact Or.inr hb1) (by first | exact Or.inl rfl | exact Or.inr hb1) (by first | exact Or.inl rfl | exact Or.inr hb1) (by first | exact Or.inl rfl | exact Or.inr hb1) hv12) (Or.inl hc69) hgv).2.2.1
        refine w_ifL_ne X14 hx (hb hby at_153) (pf := 156) (pt := 170) rfl (by decide) (by decide) (fun hc => absurd hf153 hc) (fun hc153 => ?_)
        refine w_lload X14 hx (hb hby at_156) (pc' := 158) rfl rfl ?_
        refine w_lload X14 hx (hb hby at_158) (pc' := 160) rfl rfl ?_
        refine w_lrem X14 hx (hb hby at_160) (pc' := 161) rfl (own_two (own_va (by first | exact Or.inl rfl | exact Or.inr ha1) (by first | exact Or.inl rfl | exact Or.inr ha1) (by first | exact Or.inl rfl | exact Or.inr ha1) (by first | exact Or.inl rfl | exact Or.inr ha1) hv11) (own_va (by first | exact Or.inl rfl | exact Or.inr hb1) (by first | exact Or.inl rfl | exact Or.inr hb1) (by first | exact Or.inl rfl | exact Or.inr hb1) (by first | exact Or.inl rfl | exact Or.inr hb1) hv12) hc69 hc94 hgv htwo).1 ?_
        refine w_lconst (v := 0) X14 hx (hb hby at_161) (pc' := 162) rfl rfl ?_
        refine w_lcmp X14 hx (hb hby at_162) (pc' := 163) rfl ?_
        have hf163 : (gv % two) = (0 : Int64) := (own_two (own_va (by first | exact Or.inl rfl | exact Or.inr ha1) (by first | exact Or.inl rfl | exact Or.inr ha1) (by first | exact Or.inl rfl | exact Or.inr ha1) (by first | exact Or.inl rfl | exact Or.inr ha1) hv11) (own_va (by first | exact Or.inl rfl | exact Or.inr hb1) (by first | exact Or.inl rfl | exact Or.inr hb1) (by first | exact Or.inl rfl | exact Or.inr hb1) (by first | exact Or.inl rfl | exact Or.inr hb1) hv12) hc69 hc94 hgv htwo).2
        refine w_ifL_ne X14 hx (hb hby at_163) (pf := 166) (pt := 170) rfl (by decide) (by decide) (fun hc => absurd hf163 hc) (fun hc163 => ?_)
        refine w_iconst (v := 1) X14 hx (hb hby at_166) (pc' := 167) rfl rfl ?_
        refine w_goto X14 hx (hb hby at_167) (pc' := 171) (by decide) (by decide) ?_
        refine w_istore (Ls' := #[.val (.long x0), .second, .val (.long x1), .second, .val (.long x2), .second, .val (.long x3), .second, .val (.long x4), .second, .val (.int x5), .val (.long v11), .second, .val (.long v12), .second, .val (.int zz), .val (.long gv), .second, .val (.int (1 : Int32)), .val (.long two), .second, .unset, .unset, .unset, .unset, .unset, .unset, .unset, .unset, .unset, .unset, .unset, .unset, .unset, .unset, .unset, .unset, .unset, .unset, .unset, .unset, .unset, .unset, .unset, .unset]) X14 hx (hb hby at_171) (pc' := 173) rfl rfl ?_
        refine w_lload X14 hx (hb hby at_173) (pc' := 175) rfl rfl ?_
        refine w_ldc2 X14 hx hZ hown (hw _ (List.mem_of_getElem? (i := 5) rfl)) (hb hby at_175) (pc' := 178) rfl ?_
        refine w_land X14 hx (hb hby at_178) (pc' := 179) rfl ?_
        refine w_lconst (v := 1) X14 hx (hb hby at_179) (pc' := 180) rfl rfl ?_
        refine w_ladd X14 hx (hb hby at_180) (pc' := 181) rfl ?_
        refine w_lstore (Ls' := #[.val (.long x0), .second, .val (.long x1), .second, .val (.long x2), .second, .val (.long x3), .second, .val (.long x4), .second, .val (.int x5), .val (.long v11), .second, .val (.long v12), .second, .val (.int zz), .val (.long gv), .second, .val (.int (1 : Int32)), .val (.long ((x3 &&& (2147483647 : Int64)) + (1 : Int64))), .second, .unset, .unset, .unset, .unset, .unset, .unset, .unset, .unset, .unset, .unset, .unset, .unset, .unset, .unset, .unset, .unset, .unset, .unset, .unset, .unset, .unset, .unset, .unset, .unset]) X14 hx (hb hby at_181) (pc' := 183) rfl rfl ?_
        obtain ⟨mk, hmk⟩ : ∃ z : Int64, z = ((x3 &&& (2147483647 : Int64)) + (1 : Int64)) := ⟨_, rfl⟩
        rw [← hmk]
        refine w_lload X14 hx (hb hby at_183) (pc' := 185) rfl rfl ?_
        refine w_bipush (v := 33) X14 hx (hb hby at_185) (pc' := 187) rfl rfl ?_
        refine w_lushr X14 hx (hb hby at_187) (pc' := 188) rfl ?_
        refine w_ldc2 X14 hx hZ hown (hw _ (List.mem_of_getElem? (i := 5) rfl)) (hb hby at_188) (pc' := 191) rfl ?_
        refine w_land X14 hx (hb hby at_191) (pc' := 192) rfl ?_
        refine w_lstore (Ls' := #[.val (.long x0), .second, .val (.long x1), .second, .val (.long x2), .second, .val (.long x3), .second, .val (.long x4), .second, .val (.int x5), .val (.long v11), .second, .val (.long v12), .second, .val (.int zz), .val (.long gv), .second, .val (.int (1 : Int32)), .val (.long mk), .second, .val (.long ((jlushr x3 (33 : Int32)) &&& (2147483647 : Int64))), .second, .unset, .unset, .unset, .unset, .unset, .unset, .unset, .unset, .unset, .unset, .unset, .unset, .unset, .unset, .unset, .unset, .unset, .unset, .unset, .unset, .unset, .unset]) X14 hx (hb hby at_192) (pc' := 194) rfl rfl ?_
        obtain ⟨uu, huu⟩ : ∃ z : Int64, z = ((jlushr x3 (33 : Int32)) &&& (2147483647 : Int64)) := ⟨_, rfl⟩
        rw [← huu]
        refine w_lload X14 hx (hb hby at_194) (pc' := 196) rfl rfl ?_
        refine w_ldc2 X14 hx hZ hown (hw _ (List.mem_of_getElem? (i := 5) rfl)) (hb hby at_196) (pc' := 199) rfl ?_
        refine w_land X14 hx (hb hby at_199) (pc' := 200) rfl ?_
        refine w_lstore (Ls' := #[.val (.long x0), .second, .val (.long x1), .second, .val (.long x2), .second, .val (.long x3), .second, .val (.long x4), .second, .val (.int x5), .val (.long v11), .second, .val (.long v12), .second, .val (.int zz), .val (.long gv), .second, .val (.int (1 : Int32)), .val (.long mk), .second, .val (.long uu), .second, .val (.long (x4 &&& (2147483647 : Int64))), .second, .unset, .unset, .unset, .unset, .unset, .unset, .unset, .unset, .unset, .unset, .unset, .unset, .unset, .unset, .unset, .unset, .unset, .unset, .unset, .unset]) X14 hx (hb hby at_200) (pc' := 202) rfl rfl ?_
        obtain ⟨vv, hvv⟩ : ∃ z : Int64, z = (x4 &&& (2147483647 : Int64)) := ⟨_, rfl⟩
        rw [← hvv]
        refine w_lload X14 hx (hb hby at_202) (pc' := 204) rfl rfl ?_
        refine w_lload X14 hx (hb hby at_204) (pc' := 206) rfl rfl ?_
        refine w_lmul X14 hx (hb hby at_206) (pc' := 207) rfl ?_
        refine w_lstore (Ls' := #[.val (.long x0), .second, .val (.long x1), .second, .val (.long x2), .second, .val (.long x3), .second, .val (.long x4), .second, .val (.int x5), .val (.long v11), .second, .val (.long v12), .second, .val (.int zz), .val (.long gv), .second, .val (.int (1 : Int32)), .val (.long mk), .second, .val (.long uu), .second, .val (.long vv), .second, .val (.long (mk * uu)), .second, .unset, .unset, .unset, .unset, .unset, .unset, .unset, .unset, .unset, .unset, .unset, .unset, .unset, .unset, .unset, .unset, .unset, .unset]) X14 hx (hb hby at_207) (pc' := 209) rfl rfl ?_
        obtain ⟨mu, hmu⟩ : ∃ z : Int64, z = (mk * uu) := ⟨_, rfl⟩
        rw [← hmu]
        refine w_lload X14 hx (hb hby at_209) (pc' := 211) rfl rfl ?_
        refine w_lload X14 hx (hb hby at_211) (pc' := 213) rfl rfl ?_
        refine w_lmul X14 hx (hb hby at_213) (pc' := 214) rfl ?_
        refine w_lstore (Ls' := #[.val (.long x0), .second, .val (.long x1), .second, .val (.long x2), .second, .val (.long x3), .second, .val (.long x4), .second, .val (.int x5), .val (.long v11), .second, .val (.long v12), .second, .val (.int zz), .val (.long gv), .second, .val (.int (1 : Int32)), .val (.long mk), .second, .val (.long uu), .second, .val (.long vv), .second, .val (.long mu), .second, .val (.long (mk * vv)), .second, .unset, .unset, .unset, .unset, .unset, .unset, .unset, .unset, .unset, .unset, .unset, .unset, .unset, .unset, .unset, .unset]) X14 hx (hb hby at_214) (pc' := 216) rfl rfl ?_
        obtain ⟨mv, hmv⟩ : ∃ z : Int64, z = (mk * vv) := ⟨_, rfl⟩
        rw [← hmv]
        refine w_lload X14 hx (hb hby at_216) (pc' := 218) rfl rfl ?_
        refine w_lload X14 hx (hb hby at_218) (pc' := 220) rfl rfl ?_
        refine w_callS (argsL := [(.long mu), (.long mv)]) (rest := []) X14 hx hZ hown e14 (rm1 l Z a0 hw mu mv h0 n0 (own_s2p hmk huu hvv hmu hmv).1 (own_s2p hmk huu hvv hmu hmv).2.1) (hw _ (List.mem_of_getElem? (i := 1) rfl)) (hw _ (List.mem_of_getElem? (i := 2) rfl)) (hw _ (List.mem_of_getElem? (i := 3) rfl)) (hw _ (List.mem_of_getElem? (i := 4) rfl)) (by decide) (by decide) (W := 0) (by decide) (by decide) (by decide) (by rw [hml]; rfl) (lenOf pd_2 rfl) (Nat.le_refl _) rfl (hb hby at_220) (pc' := 223) rfl (fun T15 L15 v15 X15 hQ15 => ?_)
        obtain ⟨rfl, N15q, e15⟩ := hQ15
        have N15 := Fr.app N14 N15q
        have X15 : Stand p l e room_1 s m _ below meth c T15 _ 0 0 := X15
        show Go p e below s room_1.cells room_1.slots (QL (some (.int 1)) n0) T15 (mkF m 223 #[.val (.long x0), .second, .val (.long x1), .second, .val (.long x2), .second, .val (.long x3), .second, .val (.long x4), .second, .val (.int x5), .val (.long v11), .second, .val (.long v12), .second, .val (.int zz), .val (.long gv), .second, .val (.int (1 : Int32)), .val (.long mk), .second, .val (.long uu), .second, .val (.long vv), .second, .val (.long mu), .second, .val (.long mv), .second, .unset, .unset, .unset, .unset, .unset, .unset, .unset, .unset, .unset, .unset, .unset, .unset, .unset, .unset, .unset, .unset] [(.long (own_gcd mu mv))])
        refine w_lstore (Ls' := #[.val (.long x0), .second, .val (.long x1), .second, .val (.long x2), .second, .val (.long x3), .second, .val (.long x4), .second, .val (.int x5), .val (.long v11), .second, .val (.long v12), .second, .val (.int zz), .val (.long gv), .second, .val (.int (1 : Int32)), .val (.long mk), .second, .val (.long uu), .second, .val (.long vv), .second, .val (.long mu), .second, .val (.long mv), .second, .val (.long (own_gcd mu mv)), .second, .unset, .unset, .unset, .unset, .unset, .unset, .unset, .unset, .unset, .unset, .unset, .unset, .unset, .unset]) X15 hx (hb hby at_223) (pc' := 225) rfl rfl ?_
        obtain ⟨g2, hg2⟩ : ∃ z : Int64, z = (own_gcd mu mv) := ⟨_, rfl⟩
        rw [← hg2]
        refine w_lload X15 hx (hb hby at_225) (pc' := 227) rfl rfl ?_
        refine w_lconst (v := 0) X15 hx (hb hby at_227) (pc' := 228) rfl rfl ?_
        refine w_lcmp X15 hx (hb hby at_228) (pc' := 229) rfl ?_
        refine w_ifL_ne X15 hx (hb hby at_229) (pf := 232) (pt := 261) rfl (by decide) (by decide) (fun hc229 => ?_) (fun hc229 => ?_)
        · refine w_iload X15 hx (hb hby at_261) (pc' := 263) rfl rfl ?_
          have hf263 : ¬ ((1 : Int32) = (0 : Int32)) := (by decide)
          refine w_if_eq X15 hx (hb hby at_263) (pf := 266) (pt := 307) rfl (by decide) (by decide) (fun hc => absurd hc hf263) (fun hc263 => ?_)
          refine w_lload X15 hx (hb hby at_266) (pc' := 268) rfl rfl ?_
          refine w_lconst (v := 0) X15 hx (hb hby at_268) (pc' := 269) rfl rfl ?_
          refine w_lcmp X15 hx (hb hby at_269) (pc' := 270) rfl ?_
          have hf270 : (0 : Int64) < g2 := (own_gpos (own_s2p hmk huu hvv hmu hmv).1 (own_s2p hmk huu hvv hmu hmv).2.1 (by first | exact Or.inl hc229 | exact Or.inr hc236) hg2).1
          refine w_ifL_le X15 hx (hb hby at_270) (pf := 273) (pt := 307) rfl (by decide) (by decide) (fun hc => absurd hf270 hc) (fun hc270 => ?_)
          refine w_lload X15 hx (hb hby at_273) (pc' := 275) rfl rfl ?_
          refine w_lload X15 hx (hb hby at_275) (pc' := 277) rfl rfl ?_
          refine w_lrem X15 hx (hb hby at_277) (pc' := 278) rfl (own_s2p hmk huu hvv hmu hmv).2.2 ?_
          refine w_lconst (v := 0) X15 hx (hb hby at_278) (pc' := 279) rfl rfl ?_
          refine w_lcmp X15 hx (hb hby at_279) (pc' := 280) rfl ?_
          have hf280 : (g2 % mk) = (0 : Int64) := own_s2d hmk huu hvv hmu hmv hg2
          refine w_ifL_ne X15 hx (hb hby at_280) (pf := 283) (pt := 307) rfl (by decide) (by decide) (fun hc => absurd hf280 hc) (fun hc280 => ?_)
          refine w_lload X15 hx (hb hby at_283) (pc' := 285) rfl rfl ?_
          refine w_lload X15 hx (hb hby at_285) (pc' := 287) rfl rfl ?_
          refine w_lrem X15 hx (hb hby at_287) (pc' := 288) rfl (own_gpos (own_s2p hmk huu hvv hmu hmv).1 (own_s2p hmk huu hvv hmu hmv).2.1 (by first | exact Or.inl hc229 | exact Or.inr hc236) hg2).2.2.2.1 ?_
          refine w_lconst (v := 0) X15 hx (hb hby at_288) (pc' := 289) rfl rfl ?_
          refine w_lcmp X15 hx (hb hby at_289) (pc' := 290) rfl ?_
          have hf290 : (mu % g2) = (0 : Int64) := (own_gpos (own_s2p hmk huu hvv hmu hmv).1 (own_s2p hmk huu hvv hmu hmv).2.1 (by first | exact Or.inl hc229 | exact Or.inr hc236) hg2).2.1
          refine w_ifL_ne X15 hx (hb hby at_290) (pf := 293) (pt := 307) rfl (by decide) (by decide) (fun hc => absurd hf290 hc) (fun hc290 => ?_)
          refine w_lload X15 hx (hb hby at_293) (pc' := 295) rfl rfl ?_
          refine w_lload X15 hx (hb hby at_295) (pc' := 297) rfl rfl ?_
          refine w_lrem X15 hx (hb hby at_297) (pc' := 298) rfl (own_gpos (own_s2p hmk huu hvv hmu hmv).1 (own_s2p hmk huu hvv hmu hmv).2.1 (by first | exact Or.inl hc229 | exact Or.inr hc236) hg2).2.2.2.1 ?_
          refine w_lconst (v := 0) X15 hx (hb hby at_298) (pc' := 299) rfl rfl ?_
          refine w_lcmp X15 hx (hb hby at_299) (pc' := 300) rfl ?_
          have hf300 : (mv % g2) = (0 : Int64) := (own_gpos (own_s2p hmk huu hvv hmu hmv).1 (own_s2p hmk huu hvv hmu hmv).2.1 (by first | exact Or.inl hc229 | exact Or.inr hc236) hg2).2.2.1
          refine w_ifL_ne X15 hx (hb hby at_300) (pf := 303) (pt := 307) rfl (by decide) (by decide) (fun hc => absurd hf300 hc) (fun hc300 => ?_)
          refine w_iconst (v := 1) X15 hx (hb hby at_303) (pc' := 304) rfl rfl ?_
          refine w_goto X15 hx (hb hby at_304) (pc' := 308) (by decide) (by decide) ?_
          refine w_istore (Ls' := #[.val (.long x0), .second, .val (.long x1), .second, .val (.long x2), .second, .val (.long x3), .second, .val (.long x4), .second, .val (.int x5), .val (.long v11), .second, .val (.long v12), .second, .val (.int zz), .val (.long gv), .second, .val (.int (1 : Int32)), .val (.long mk), .second, .val (.long uu), .second, .val (.long vv), .second, .val (.long mu), .second, .val (.long mv), .second, .val (.long g2), .second, .unset, .unset, .unset, .unset, .unset, .unset, .unset, .unset, .unset, .unset, .unset, .unset, .unset, .unset]) X15 hx (hb hby at_308) (pc' := 310) rfl rfl ?_
          refine w_lload X15 hx (hb hby at_310) (pc' := 312) rfl rfl ?_
          refine w_ldc2 X15 hx hZ hown (hw _ (List.mem_of_getElem? (i := 6) rfl)) (hb hby at_312) (pc' := 315) rfl ?_
          refine w_land X15 hx (hb hby at_315) (pc' := 316) rfl ?_
          refine w_lconst (v := 1) X15 hx (hb hby at_316) (pc' := 317) rfl rfl ?_
          refine w_ladd X15 hx (hb hby at_317) (pc' := 318) rfl ?_
          refine w_lstore (Ls' := #[.val (.long x0), .second, .val (.long x1), .second, .val (.long x2), .second, .val (.long x3), .second, .val (.long x4), .second, .val (.int x5), .val (.long v11), .second, .val (.long v12), .second, .val (.int zz), .val (.long gv), .second, .val (.int (1 : Int32)), .val (.long mk), .second, .val (.long uu), .second, .val (.long vv), .second, .val (.long mu), .second, .val (.long mv), .second, .val (.long g2), .second, .val (.long ((x2 &&& (1048575 : Int64)) + (1 : Int64))), .second, .unset, .unset, .unset, .unset, .unset, .unset, .unset, .unset, .unset, .unset, .unset, .unset]) X15 hx (hb hby at_318) (pc' := 320) rfl rfl ?_
          obtain ⟨dd, hdd⟩ : ∃ z : Int64, z = ((x2 &&& (1048575 : Int64)) + (1 : Int64)) := ⟨_, rfl⟩
          rw [← hdd]
          refine w_lload X15 hx (hb hby at_320) (pc' := 322) rfl rfl ?_
          refine w_bipush (v := 20) X15 hx (hb hby at_322) (pc' := 324) rfl rfl ?_
          refine w_lushr X15 hx (hb hby at_324) (pc' := 325) rfl ?_
          refine w_ldc2 X15 hx hZ hown (hw _ (List.mem_of_getElem? (i := 6) rfl)) (hb hby at_325) (pc' := 328) rfl ?_
          refine w_land X15 hx (hb hby at_328) (pc' := 329) rfl ?_
          refine w_lconst (v := 1) X15 hx (hb hby at_329) (pc' := 330) rfl rfl ?_
          refine w_ladd X15 hx (hb hby at_330) (pc' := 331) rfl ?_
          refine w_lstore (Ls' := #[.val (.long x0), .second, .val (.long x1), .second, .val (.long x2), .second, .val (.long x3), .second, .val (.long x4), .second, .val (.int x5), .val (.long v11), .second, .val (.long v12), .second, .val (.int zz), .val (.long gv), .second, .val (.int (1 : Int32)), .val (.long mk), .second, .val (.long uu), .second, .val (.long vv), .second, .val (.long mu), .second, .val (.long mv), .second, .val (.long g2), .second, .val (.long dd), .second, .val (.long (((jlushr x2 (20 : Int32)) &&& (1048575 : Int64)) + (1 : Int64))), .second, .unset, .unset, .unset, .unset, .unset, .unset, .unset, .unset, .unset, .unset]) X15 hx (hb hby at_331) (pc' := 333) rfl rfl ?_
          obtain ⟨xx, hxx⟩ : ∃ z : Int64, z = (((jlushr x2 (20 : Int32)) &&& (1048575 : Int64)) + (1 : Int64)) := ⟨_, rfl⟩
          rw [← hxx]
          refine w_lload X15 hx (hb hby at_333) (pc' := 335) rfl rfl ?_
          refine w_bipush (v := 40) X15 hx (hb hby at_335) (pc' := 337) rfl rfl ?_
          refine w_lushr X15 hx (hb hby at_337) (pc' := 338) rfl ?_
          refine w_ldc2 X15 hx hZ hown (hw _ (List.mem_of_getElem? (i := 6) rfl)) (hb hby at_338) (pc' := 341) rfl ?_
          refine w_land X15 hx (hb hby at_341) (pc' := 342) rfl ?_
          refine w_lstore (Ls' := #[.val (.long x0), .second, .val (.long x1), .second, .val (.long x2), .second, .val (.long x3), .second, .val (.long x4), .second, .val (.int x5), .val (.long v11), .second, .val (.long v12), .second, .val (.int zz), .val (.long gv), .second, .val (.int (1 : Int32)), .val (.long mk), .second, .val (.long uu), .second, .val (.long vv), .second, .val (.long mu), .second, .val (.long mv), .second, .val (.long g2), .second, .val (.long dd), .second, .val (.long xx), .second, .val (.long ((jlushr x2 (40 : Int32)) &&& (1048575 : Int64))), .second, .unset, .unset, .unset, .unset, .unset, .unset, .unset, .unset]) X15 hx (hb hby at_342) (pc' := 344) rfl rfl ?_
          obtain ⟨kk, hkk⟩ : ∃ z : Int64, z = ((jlushr x2 (40 : Int32)) &&& (1048575 : Int64)) := ⟨_, rfl⟩
          rw [← hkk]
          refine w_lload X15 hx (hb hby at_344) (pc' := 346) rfl rfl ?_
          refine w_lload X15 hx (hb hby at_346) (pc' := 348) rfl rfl ?_
          refine w_lmul X15 hx (hb hby at_348) (pc' := 349) rfl ?_
          refine w_lconst (v := 1) X15 hx (hb hby at_349) (pc' := 350) rfl rfl ?_
          refine w_ladd X15 hx (hb hby at_350) (pc' := 351) rfl ?_
          refine w_lstore (Ls' := #[.val (.long x0), .second, .val (.long x1), .second, .val (.long x2), .second, .val (.long x3), .second, .val (.long x4), .second, .val (.int x5), .val (.long v11), .second, .val (.long v12), .second, .val (.int zz), .val (.long gv), .second, .val (.int (1 : Int32)), .val (.long mk), .second, .val (.long uu), .second, .val (.long vv), .second, .val (.long mu), .second, .val (.long mv), .second, .val (.long g2), .second, .val (.long dd), .second, .val (.long xx), .second, .val (.long kk), .second, .val (.long ((kk * xx) + (1 : Int64))), .second, .unset, .unset, .unset, .unset, .unset, .unset]) X15 hx (hb hby at_351) (pc' := 353) rfl rfl ?_
          obtain ⟨yy, hyy⟩ : ∃ z : Int64, z = ((kk * xx) + (1 : Int64)) := ⟨_, rfl⟩
          rw [← hyy]
          refine w_lload X15 hx (hb hby at_353) (pc' := 355) rfl rfl ?_
          refine w_lload X15 hx (hb hby at_355) (pc' := 357) rfl rfl ?_
          refine w_lmul X15 hx (hb hby at_357) (pc' := 358) rfl ?_
          refine w_lstore (Ls' := #[.val (.long x0), .second, .val (.long x1), .second, .val (.long x2), .second, .val (.long x3), .second, .val (.long x4), .second, .val (.int x5), .val (.long v11), .second, .val (.long v12), .second, .val (.int zz), .val (.long gv), .second, .val (.int (1 : Int32)), .val (.long mk), .second, .val (.long uu), .second, .val (.long vv), .second, .val (.long mu), .second, .val (.long mv), .second, .val (.long g2), .second, .val (.long dd), .second, .val (.long xx), .second, .val (.long kk), .second, .val (.long yy), .second, .val (.long (dd * xx)), .second, .unset, .unset, .unset, .unset]) X15 hx (hb hby at_358) (pc' := 360) rfl rfl ?_
          obtain ⟨cc, hcc⟩ : ∃ z : Int64, z = (dd * xx) := ⟨_, rfl⟩
          rw [← hcc]
          refine w_lload X15 hx (hb hby at_360) (pc' := 362) rfl rfl ?_
          refine w_lload X15 hx (hb hby at_362) (pc' := 364) rfl rfl ?_
          refine w_lmul X15 hx (hb hby at_364) (pc' := 365) rfl ?_
          refine w_lstore (Ls' := #[.val (.long x0), .second, .val (.long x1), .second, .val (.long x2), .second, .val (.long x3), .second, .val (.long x4), .second, .val (.int x5), .val (.long v11), .second, .val (.long v12), .second, .val (.int zz), .val (.long gv), .second, .val (.int (1 : Int32)), .val (.long mk), .second, .val (.long uu), .second, .val (.long vv), .second, .val (.long mu), .second, .val (.long mv), .second, .val (.long g2), .second, .val (.long dd), .second, .val (.long xx), .second, .val (.long kk), .second, .val (.long yy), .second, .val (.long cc), .second, .val (.long (dd * yy)), .second, .unset, .unset]) X15 hx (hb hby at_365) (pc' := 367) rfl rfl ?_
          obtain ⟨ee, hee⟩ : ∃ z : Int64, z = (dd * yy) := ⟨_, rfl⟩
          rw [← hee]
          refine w_iload X15 hx (hb hby at_367) (pc' := 369) rfl rfl ?_
          refine w_iconst (v := 4) X15 hx (hb hby at_369) (pc' := 370) rfl rfl ?_
          refine w_iand X15 hx (hb hby at_370) (pc' := 371) rfl ?_
          refine w_if_eq X15 hx (hb hby at_371) (pf := 374) (pt := 386) rfl (by decide) (by decide) (fun hc371 => ?_) (fun hc371 => ?_)
          · refine w_lload X15 hx (hb hby at_386) (pc' := 388) rfl rfl ?_
            refine w_lload X15 hx (hb hby at_388) (pc' := 390) rfl rfl ?_
            refine w_callS (argsL := [(.long ee), (.long cc)]) (rest := []) X15 hx hZ hown e15 (rm1 l Z a0 hw ee cc h0 n0 (own_s3p hdd hxx hkk hyy hcc hee).2 (own_s3p hdd hxx hkk hyy hcc hee).1) (hw _ (List.mem_of_getElem? (i := 1) rfl)) (hw _ (List.mem_of_getElem? (i := 2) rfl)) (hw _ (List.mem_of_getElem? (i := 3) rfl)) (hw _ (List.mem_of_getElem? (i := 4) rfl)) (by decide) (by decide) (W := 0) (by decide) (by decide) (by decide) (by rw [hml]; rfl) (lenOf pd_2 rfl) (Nat.le_refl _) rfl (hb hby at_390) (pc' := 393) rfl (fun T16 L16 v16 X16 hQ16 => ?_)
            obtain ⟨rfl, N16q, e16⟩ := hQ16
            have N16 := Fr.app N15 N16q
            have X16 : Stand p l e room_1 s m _ below meth c T16 _ 0 0 := X16
            show Go p e below s room_1.cells room_1.slots (QL (some (.int 1)) n0) T16 (mkF m 393 #[.val (.long x0), .second, .val (.long x1), .second, .val (.long x2), .second, .val (.long x3), .second, .val (.long x4), .second, .val (.int x5), .val (.long v11), .second, .val (.long v12), .second, .val (.int zz), .val (.long gv), .second, .val (.int (1 : Int32)), .val (.long mk), .second, .val (.long uu), .second, .val (.long vv), .second, .val (.long mu), .second, .val (.long mv), .second, .val (.long g2), .second, .val (.long dd), .second, .val (.long xx), .second, .val (.long kk), .second, .val (.long yy), .second, .val (.long cc), .second, .val (.long ee), .second, .unset, .unset] [(.long (own_gcd ee cc))])
            refine w_lstore (Ls' := #[.val (.long x0), .second, .val (.long x1), .second, .val (.long x2), .second, .val (.long x3), .second, .val (.long x4), .second, .val (.int x5), .val (.long v11), .second, .val (.long v12), .second, .val (.int zz), .val (.long gv), .second, .val (.int (1 : Int32)), .val (.long mk), .second, .val (.long uu), .second, .val (.long vv), .second, .val (.long mu), .second, .val (.long mv), .second, .val (.long g2), .second, .val (.long dd), .second, .val (.long xx), .second, .val (.long kk), .second, .val (.long yy), .second, .val (.long cc), .second, .val (.long ee), .second, .val (.long (own_gcd ee cc)), .second]) X16 hx (hb hby at_393) (pc' := 395) rfl rfl ?_
            obtain ⟨hh, hhh⟩ : ∃ z : Int64, z = (own_gcd ee cc) := ⟨_, rfl⟩
            rw [← hhh]
            refine w_iload X16 hx (hb hby at_395) (pc' := 397) rfl rfl ?_
            have hf397 : ¬ ((1 : Int32) = (0 : Int32)) := (by decide)
            refine w_if_eq X16 hx (hb hby at_397) (pf := 400) (pt := 412) rfl (by decide) (by decide) (fun hc => absurd hc hf397) (fun hc397 => ?_)
            refine w_lload X16 hx (hb hby at_400) (pc' := 402) rfl rfl ?_
            refine w_lload X16 hx (hb hby at_402) (pc' := 404) rfl rfl ?_
            refine w_lcmp X16 hx (hb hby at_404) (pc' := 405) rfl ?_
            have hf405 : hh = dd := own_s3d hdd hxx hkk hyy hcc hee (by first | exact Or.inl hhh | exact Or.inr hhh)
            refine w_ifL_ne X16 hx (hb hby at_405) (pf := 408) (pt := 412) rfl (by decide) (by decide) (fun hc => absurd hf405 hc) (fun hc405 => ?_)
            refine w_iconst (v := 1) X16 hx (hb hby at_408) (pc' := 409) rfl rfl ?_
            refine w_goto X16 hx (hb hby at_409) (pc' := 413) (by decide) (by decide) ?_
            refine w_istore (Ls' := #[.val (.long x0), .second, .val (.long x1), .second, .val (.long x2), .second, .val (.long x3), .second, .val (.long x4), .second, .val (.int x5), .val (.long v11), .second, .val (.long v12), .second, .val (.int zz), .val (.long gv), .second, .val (.int (1 : Int32)), .val (.long mk), .second, .val (.long uu), .second, .val (.long vv), .second, .val (.long mu), .second, .val (.long mv), .second, .val (.long g2), .second, .val (.long dd), .second, .val (.long xx), .second, .val (.long kk), .second, .val (.long yy), .second, .val (.long cc), .second, .val (.long ee), .second, .val (.long hh), .second]) X16 hx (hb hby at_413) (pc' := 415) rfl rfl ?_
            refine w_iload X16 hx (hb hby at_415) (pc' := 417) rfl rfl ?_
            exact w_retZ X16 hx hret hlk (hb hby at_417) (by decide) (by decide) ⟨rfl, N16⟩
          · refine w_lload X15 hx (hb hby at_374) (pc' := 376) rfl rfl ?_
            refine w_lload X15 hx (hb hby at_376) (pc' := 378) rfl rfl ?_
            refine w_callS (argsL := [(.long cc), (.long ee)]) (rest := []) X15 hx hZ hown e15 (rm1 l Z a0 hw cc ee h0 n0 (own_s3p hdd hxx hkk hyy hcc hee).1 (own_s3p hdd hxx hkk hyy hcc hee).2) (hw _ (List.mem_of_getElem? (i := 1) rfl)) (hw _ (List.mem_of_getElem? (i := 2) rfl)) (hw _ (List.mem_of_getElem? (i := 3) rfl)) (hw _ (List.mem_of_getElem? (i := 4) rfl)) (by decide) (by decide) (W := 0) (by decide) (by decide) (by decide) (by rw [hml]; rfl) (lenOf pd_2 rfl) (Nat.le_refl _) rfl (hb hby at_378) (pc' := 381) rfl (fun T17 L17 v17 X17 hQ17 => ?_)
            obtain ⟨rfl, N17q, e17⟩ := hQ17
            have N17 := Fr.app N15 N17q
            have X17 : Stand p l e room_1 s m _ below meth c T17 _ 0 0 := X17
            show Go p e below s room_1.cells room_1.slots (QL (some (.int 1)) n0) T17 (mkF m 381 #[.val (.long x0), .second, .val (.long x1), .second, .val (.long x2), .second, .val (.long x3), .second, .val (.long x4), .second, .val (.int x5), .val (.long v11), .second, .val (.long v12), .second, .val (.int zz), .val (.long gv), .second, .val (.int (1 : Int32)), .val (.long mk), .second, .val (.long uu), .second, .val (.long vv), .second, .val (.long mu), .second, .val (.long mv), .second, .val (.long g2), .second, .val (.long dd), .second, .val (.long xx), .second, .val (.long kk), .second, .val (.long yy), .second, .val (.long cc), .second, .val (.long ee), .second, .unset, .unset] [(.long (own_gcd cc ee))])
            refine w_lstore (Ls' := #[.val (.long x0), .second, .val (.long x1), .second, .val (.long x2), .second, .val (.long x3), .second, .val (.long x4), .second, .val (.int x5), .val (.long v11), .second, .val (.long v12), .second, .val (.int zz), .val (.long gv), .second, .val (.int (1 : Int32)), .val (.long mk), .second, .val (.long uu), .second, .val (.long vv), .second, .val (.long mu), .second, .val (.long mv), .second, .val (.long g2), .second, .val (.long dd), .second, .val (.long xx), .second, .val (.long kk), .second, .val (.long yy), .second, .val (.long cc), .second, .val (.long ee), .second, .val (.long (own_gcd cc ee)), .second]) X17 hx (hb hby at_381) (pc' := 383) rfl rfl ?_
            obtain ⟨hh, hhh⟩ : ∃ z : Int64, z = (own_gcd cc ee) := ⟨_, rfl⟩
            rw [← hhh]
            refine w_goto X17 hx (hb hby at_383) (pc' := 395) (by decide) (by decide) ?_
            refine w_iload X17 hx (hb hby at_395) (pc' := 397) rfl rfl ?_
            have hf397 : ¬ ((1 : Int32) = (0 : Int32)) := (by decide)
            refine w_if_eq X17 hx (hb hby at_397) (pf := 400) (pt := 412) rfl (by decide) (by decide) (fun hc => absurd hc hf397) (fun hc397 => ?_)
            refine w_lload X17 hx (hb hby at_400) (pc' := 402) rfl rfl ?_
            refine w_lload X17 hx (hb hby at_402) (pc' := 404) rfl rfl ?_
            refine w_lcmp X17 hx (hb hby at_404) (pc' := 405) rfl ?_
            have hf405 : hh = dd := own_s3d hdd hxx hkk hyy hcc hee (by first | exact Or.inl hhh | exact Or.inr hhh)
            refine w_ifL_ne X17 hx (hb hby at_405) (pf := 408) (pt := 412) rfl (by decide) (by decide) (fun hc => absurd hf405 hc) (fun hc405 => ?_)
            refine w_iconst (v := 1) X17 hx (hb hby at_408) (pc' := 409) rfl rfl ?_
            refine w_goto X17 hx (hb hby at_409) (pc' := 413) (by decide) (by decide) ?_
            refine w_istore (Ls' := #[.val (.long x0), .second, .val (.long x1), .second, .val (.long x2), .second, .val (.long x3), .second, .val (.long x4), .second, .val (.int x5), .val (.long v11), .second, .val (.long v12), .second, .val (.int zz), .val (.long gv), .second, .val (.int (1 : Int32)), .val (.long mk), .second, .val (.long uu), .second, .val (.long vv), .second, .val (.long mu), .second, .val (.long mv), .second, .val (.long g2), .second, .val (.long dd), .second, .val (.long xx), .second, .val (.long kk), .second, .val (.long yy), .second, .val (.long cc), .second, .val (.long ee), .second, .val (.long hh), .second]) X17 hx (hb hby at_413) (pc' := 415) rfl rfl ?_
            refine w_iload X17 hx (hb hby at_415) (pc' := 417) rfl rfl ?_
            exact w_retZ X17 hx hret hlk (hb hby at_417) (by decide) (by decide) ⟨rfl, N17⟩
        · refine w_lload X15 hx (hb hby at_232) (pc' := 234) rfl rfl ?_
          refine w_lconst (v := 0) X15 hx (hb hby at_234) (pc' := 235) rfl rfl ?_
          refine w_lcmp X15 hx (hb hby at_235) (pc' := 236) rfl ?_
          refine w_ifL_ne X15 hx (hb hby at_236) (pf := 239) (pt := 261) rfl (by decide) (by decide) (fun hc236 => ?_) (fun hc236 => ?_)
          · refine w_iload X15 hx (hb hby at_261) (pc' := 263) rfl rfl ?_
            have hf263 : ¬ ((1 : Int32) = (0 : Int32)) := (by decide)
            refine w_if_eq X15 hx (hb hby at_263) (pf := 266) (pt := 307) rfl (by decide) (by decide) (fun hc => absurd hc hf263) (fun hc263 => ?_)
            refine w_lload X15 hx (hb hby at_266) (pc' := 268) rfl rfl ?_
            refine w_lconst (v := 0) X15 hx (hb hby at_268) (pc' := 269) rfl rfl ?_
            refine w_lcmp X15 hx (hb hby at_269) (pc' := 270) rfl ?_
            have hf270 : (0 : Int64) < g2 := (own_gpos (own_s2p hmk huu hvv hmu hmv).1 (own_s2p hmk huu hvv hmu hmv).2.1 (by first | exact Or.inl hc229 | exact Or.inr hc236) hg2).1
            refine w_ifL_le X15 hx (hb hby at_270) (pf := 273) (pt := 307) rfl (by decide) (by decide) (fun hc => absurd hf270 hc) (fun hc270 => ?_)
            refine w_lload X15 hx (hb hby at_273) (pc' := 275) rfl rfl ?_
            refine w_lload X15 hx (hb hby at_275) (pc' := 277) rfl rfl ?_
            refine w_lrem X15 hx (hb hby at_277) (pc' := 278) rfl (own_s2p hmk huu hvv hmu hmv).2.2 ?_
            refine w_lconst (v := 0) X15 hx (hb hby at_278) (pc' := 279) rfl rfl ?_
            refine w_lcmp X15 hx (hb hby at_279) (pc' := 280) rfl ?_
            have hf280 : (g2 % mk) = (0 : Int64) := own_s2d hmk huu hvv hmu hmv hg2
            refine w_ifL_ne X15 hx (hb hby at_280) (pf := 283) (pt := 307) rfl (by decide) (by decide) (fun hc => absurd hf280 hc) (fun hc280 => ?_)
            refine w_lload X15 hx (hb hby at_283) (pc' := 285) rfl rfl ?_
            refine w_lload X15 hx (hb hby at_285) (pc' := 287) rfl rfl ?_
            refine w_lrem X15 hx (hb hby at_287) (pc' := 288) rfl (own_gpos (own_s2p hmk huu hvv hmu hmv).1 (own_s2p hmk huu hvv hmu hmv).2.1 (by first | exact Or.inl hc229 | exact Or.inr hc236) hg2).2.2.2.1 ?_
            refine w_lconst (v := 0) X15 hx (hb hby at_288) (pc' := 289) rfl rfl ?_
            refine w_lcmp X15 hx (hb hby at_289) (pc' := 290) rfl ?_
            have hf290 : (mu % g2) = (0 : Int64) := (own_gpos (own_s2p hmk huu hvv hmu hmv).1 (own_s2p hmk huu hvv hmu hmv).2.1 (by first | exact Or.inl hc229 | exact Or.inr hc236) hg2).2.1
            refine w_ifL_ne X15 hx (hb hby at_290) (pf := 293) (pt := 307) rfl (by decide) (by decide) (fun hc => absurd hf290 hc) (fun hc290 => ?_)
            refine w_lload X15 hx (hb hby at_293) (pc' := 295) rfl rfl ?_
            refine w_lload X15 hx (hb hby at_295) (pc' := 297) rfl rfl ?_
            refine w_lrem X15 hx (hb hby at_297) (pc' := 298) rfl (own_gpos (own_s2p hmk huu hvv hmu hmv).1 (own_s2p hmk huu hvv hmu hmv).2.1 (by first | exact Or.inl hc229 | exact Or.inr hc236) hg2).2.2.2.1 ?_
            refine w_lconst (v := 0) X15 hx (hb hby at_298) (pc' := 299) rfl rfl ?_
            refine w_lcmp X15 hx (hb hby at_299) (pc' := 300) rfl ?_
            have hf300 : (mv % g2) = (0 : Int64) := (own_gpos (own_s2p hmk huu hvv hmu hmv).1 (own_s2p hmk huu hvv hmu hmv).2.1 (by first | exact Or.inl hc229 | exact Or.inr hc236) hg2).2.2.1
            refine w_ifL_ne X15 hx (hb hby at_300) (pf := 303) (pt := 307) rfl (by decide) (by decide) (fun hc => absurd hf300 hc) (fun hc300 => ?_)
            refine w_iconst (v := 1) X15 hx (hb hby at_303) (pc' := 304) rfl rfl ?_
            refine w_goto X15 hx (hb hby at_304) (pc' := 308) (by decide) (by decide) ?_
            refine w_istore (Ls' := #[.val (.long x0), .second, .val (.long x1), .second, .val (.long x2), .second, .val (.long x3), .second, .val (.long x4), .second, .val (.int x5), .val (.long v11), .second, .val (.long v12), .second, .val (.int zz), .val (.long gv), .second, .val (.int (1 : Int32)), .val (.long mk), .second, .val (.long uu), .second, .val (.long vv), .second, .val (.long mu), .second, .val (.long mv), .second, .val (.long g2), .second, .unset, .unset, .unset, .unset, .unset, .unset, .unset, .unset, .unset, .unset, .unset, .unset, .unset, .unset]) X15 hx (hb hby at_308) (pc' := 310) rfl rfl ?_
            refine w_lload X15 hx (hb hby at_310) (pc' := 312) rfl rfl ?_
            refine w_ldc2 X15 hx hZ hown (hw _ (List.mem_of_getElem? (i := 6) rfl)) (hb hby at_312) (pc' := 315) rfl ?_
            refine w_land X15 hx (hb hby at_315) (pc' := 316) rfl ?_
            refine w_lconst (v := 1) X15 hx (hb hby at_316) (pc' := 317) rfl rfl ?_
            refine w_ladd X15 hx (hb hby at_317) (pc' := 318) rfl ?_
            refine w_lstore (Ls' := #[.val (.long x0), .second, .val (.long x1), .second, .val (.long x2), .second, .val (.long x3), .second, .val (.long x4), .second, .val (.int x5), .val (.long v11), .second, .val (.long v12), .second, .val (.int zz), .val (.long gv), .second, .val (.int (1 : Int32)), .val (.long mk), .second, .val (.long uu), .second, .val (.long vv), .second, .val (.long mu), .second, .val (.long mv), .second, .val (.long g2), .second, .val (.long ((x2 &&& (1048575 : Int64)) + (1 : Int64))), .second, .unset, .unset, .unset, .unset, .unset, .unset, .unset, .unset, .unset, .unset, .unset, .unset]) X15 hx (hb hby at_318) (pc' := 320) rfl rfl ?_
            obtain ⟨dd, hdd⟩ : ∃ z : Int64, z = ((x2 &&& (1048575 : Int64)) + (1 : Int64)) := ⟨_, rfl⟩
            rw [← hdd]
            refine w_lload X15 hx (hb hby at_320) (pc' := 322) rfl rfl ?_
            refine w_bipush (v := 20) X15 hx (hb hby at_322) (pc' := 324) rfl rfl ?_
            refine w_lushr X15 hx (hb hby at_324) (pc' := 325) rfl ?_
            refine w_ldc2 X15 hx hZ hown (hw _ (List.mem_of_getElem? (i := 6) rfl)) (hb hby at_325) (pc' := 328) rfl ?_
            refine w_land X15 hx (hb hby at_328) (pc' := 329) rfl ?_
            refine w_lconst (v := 1) X15 hx (hb hby at_329) (pc' := 330) rfl rfl ?_
            refine w_ladd X15 hx (hb hby at_330) (pc' := 331) rfl ?_
            refine w_lstore (Ls' := #[.val (.long x0), .second, .val (.long x1), .second, .val (.long x2), .second, .val (.long x3), .second, .val (.long x4), .second, .val (.int x5), .val (.long v11), .second, .val (.long v12), .second, .val (.int zz), .val (.long gv), .second, .val (.int (1 : Int32)), .val (.long mk), .second, .val (.long uu), .second, .val (.long vv), .second, .val (.long mu), .second, .val (.long mv), .second, .val (.long g2), .second, .val (.long dd), .second, .val (.long (((jlushr x2 (20 : Int32)) &&& (1048575 : Int64)) + (1 : Int64))), .second, .unset, .unset, .unset, .unset, .unset, .unset, .unset, .unset, .unset, .unset]) X15 hx (hb hby at_331) (pc' := 333) rfl rfl ?_
            obtain ⟨xx, hxx⟩ : ∃ z : Int64, z = (((jlushr x2 (20 : Int32)) &&& (1048575 : Int64)) + (1 : Int64)) := ⟨_, rfl⟩
            rw [← hxx]
            refine w_lload X15 hx (hb hby at_333) (pc' := 335) rfl rfl ?_
            refine w_bipush (v := 40) X15 hx (hb hby at_335) (pc' := 337) rfl rfl ?_
            refine w_lushr X15 hx (hb hby at_337) (pc' := 338) rfl ?_
            refine w_ldc2 X15 hx hZ hown (hw _ (List.mem_of_getElem? (i := 6) rfl)) (hb hby at_338) (pc' := 341) rfl ?_
            refine w_land X15 hx (hb hby at_341) (pc' := 342) rfl ?_
            refine w_lstore (Ls' := #[.val (.long x0), .second, .val (.long x1), .second, .val (.long x2), .second, .val (.long x3), .second, .val (.long x4), .second, .val (.int x5), .val (.long v11), .second, .val (.long v12), .second, .val (.int zz), .val (.long gv), .second, .val (.int (1 : Int32)), .val (.long mk), .second, .val (.long uu), .second, .val (.long vv), .second, .val (.long mu), .second, .val (.long mv), .second, .val (.long g2), .second, .val (.long dd), .second, .val (.long xx), .second, .val (.long ((jlushr x2 (40 : Int32)) &&& (1048575 : Int64))), .second, .unset, .unset, .unset, .unset, .unset, .unset, .unset, .unset]) X15 hx (hb hby at_342) (pc' := 344) rfl rfl ?_
            obtain ⟨kk, hkk⟩ : ∃ z : Int64, z = ((jlushr x2 (40 : Int32)) &&& (1048575 : Int64)) := ⟨_, rfl⟩
            rw [← hkk]
            refine w_lload X15 hx (hb hby at_344) (pc' := 346) rfl rfl ?_
            refine w_lload X15 hx (hb hby at_346) (pc' := 348) rfl rfl ?_
            refine w_lmul X15 hx (hb hby at_348) (pc' := 349) rfl ?_
            refine w_lconst (v := 1) X15 hx (hb hby at_349) (pc' := 350) rfl rfl ?_
            refine w_ladd X15 hx (hb hby at_350) (pc' := 351) rfl ?_
            refine w_lstore (Ls' := #[.val (.long x0), .second, .val (.long x1), .second, .val (.long x2), .second, .val (.long x3), .second, .val (.long x4), .second, .val (.int x5), .val (.long v11), .second, .val (.long v12), .second, .val (.int zz), .val (.long gv), .second, .val (.int (1 : Int32)), .val (.long mk), .second, .val (.long uu), .second, .val (.long vv), .second, .val (.long mu), .second, .val (.long mv), .second, .val (.long g2), .second, .val (.long dd), .second, .val (.long xx), .second, .val (.long kk), .second, .val (.long ((kk * xx) + (1 : Int64))), .second, .unset, .unset, .unset, .unset, .unset, .unset]) X15 hx (hb hby at_351) (pc' := 353) rfl rfl ?_
            obtain ⟨yy, hyy⟩ : ∃ z : Int64, z = ((kk * xx) + (1 : Int64)) := ⟨_, rfl⟩
            rw [← hyy]
            refine w_lload X15 hx (hb hby at_353) (pc' := 355) rfl rfl ?_
            refine w_lload X15 hx (hb hby at_355) (pc' := 357) rfl rfl ?_
            refine w_lmul X15 hx (hb hby at_357) (pc' := 358) rfl ?_
            refine w_lstore (Ls' := #[.val (.long x0), .second, .val (.long x1), .second, .val (.long x2), .second, .val (.long x3), .second, .val (.long x4), .second, .val (.int x5), .val (.long v11), .second, .val (.long v12), .second, .val (.int zz), .val (.long gv), .second, .val (.int (1 : Int32)), .val (.long mk), .second, .val (.long uu), .second, .val (.long vv), .second, .val (.long mu), .second, .val (.long mv), .second, .val (.long g2), .second, .val (.long dd), .second, .val (.long xx), .second, .val (.long kk), .second, .val (.long yy), .second, .val (.long (dd * xx)), .second, .unset, .unset, .unset, .unset]) X15 hx (hb hby at_358) (pc' := 360) rfl rfl ?_
            obtain ⟨cc, hcc⟩ : ∃ z : Int64, z = (dd * xx) := ⟨_, rfl⟩
            rw [← hcc]
            refine w_lload X15 hx (hb hby at_360) (pc' := 362) rfl rfl ?_
            refine w_lload X15 hx (hb hby at_362) (pc' := 364) rfl rfl ?_
            refine w_lmul X15 hx (hb hby at_364) (pc' := 365) rfl ?_
            refine w_lstore (Ls' := #[.val (.long x0), .second, .val (.long x1), .second, .val (.long x2), .second, .val (.long x3), .second, .val (.long x4), .second, .val (.int x5), .val (.long v11), .second, .val (.long v12), .second, .val (.int zz), .val (.long gv), .second, .val (.int (1 : Int32)), .val (.long mk), .second, .val (.long uu), .second, .val (.long vv), .second, .val (.long mu), .second, .val (.long mv), .second, .val (.long g2), .second, .val (.long dd), .second, .val (.long xx), .second, .val (.long kk), .second, .val (.long yy), .second, .val (.long cc), .second, .val (.long (dd * yy)), .second, .unset, .unset]) X15 hx (hb hby at_365) (pc' := 367) rfl rfl ?_
            obtain ⟨ee, hee⟩ : ∃ z : Int64, z = (dd * yy) := ⟨_, rfl⟩
            rw [← hee]
            refine w_iload X15 hx (hb hby at_367) (pc' := 369) rfl rfl ?_
            refine w_iconst (v := 4) X15 hx (hb hby at_369) (pc' := 370) rfl rfl ?_
            refine w_iand X15 hx (hb hby at_370) (pc' := 371) rfl ?_
            refine w_if_eq X15 hx (hb hby at_371) (pf := 374) (pt := 386) rfl (by decide) (by decide) (fun hc371 => ?_) (fun hc371 => ?_)
            · refine w_lload X15 hx (hb hby at_386) (pc' := 388) rfl rfl ?_
              refine w_lload X15 hx (hb hby at_388) (pc' := 390) rfl rfl ?_
              refine w_callS (argsL := [(.long ee), (.long cc)]) (rest := []) X15 hx hZ hown e15 (rm1 l Z a0 hw ee cc h0 n0 (own_s3p hdd hxx hkk hyy hcc hee).2 (own_s3p hdd hxx hkk hyy hcc hee).1) (hw _ (List.mem_of_getElem? (i := 1) rfl)) (hw _ (List.mem_of_getElem? (i := 2) rfl)) (hw _ (List.mem_of_getElem? (i := 3) rfl)) (hw _ (List.mem_of_getElem? (i := 4) rfl)) (by decide) (by decide) (W := 0) (by decide) (by decide) (by decide) (by rw [hml]; rfl) (lenOf pd_2 rfl) (Nat.le_refl _) rfl (hb hby at_390) (pc' := 393) rfl (fun T18 L18 v18 X18 hQ18 => ?_)
              obtain ⟨rfl, N18q, e18⟩ := hQ18
              have N18 := Fr.app N15 N18q
              have X18 : Stand p l e room_1 s m _ below meth c T18 _ 0 0 := X18
              show Go p e below s room_1.cells room_1.slots (QL (some (.int 1)) n0) T18 (mkF m 393 #[.val (.long x0), .second, .val (.long x1), .second, .val (.long x2), .second, .val (.long x3), .second, .val (.long x4), .second, .val (.int x5), .val (.long v11), .second, .val (.long v12), .second, .val (.int zz), .val (.long gv), .second, .val (.int (1 : Int32)), .val (.long mk), .second, .val (.long uu), .second, .val (.long vv), .second, .val (.long mu), .second, .val (.long mv), .second, .val (.long g2), .second, .val (.long dd), .second, .val (.long xx), .second, .val (.long kk), .second, .val (.long yy), .second, .val (.long cc), .second, .val (.long ee), .second, .unset, .unset] [(.long (own_gcd ee cc))])
              refine w_lstore (Ls' := #[.val (.long x0), .second, .val (.long x1), .second, .val (.long x2), .second, .val (.long x3), .second, .val (.long x4), .second, .val (.int x5), .val (.long v11), .second, .val (.long v12), .second, .val (.int zz), .val (.long gv), .second, .val (.int (1 : Int32)), .val (.long mk), .second, .val (.long uu), .second, .val (.long vv), .second, .val (.long mu), .second, .val (.long mv), .second, .val (.long g2), .second, .val (.long dd), .second, .val (.long xx), .second, .val (.long kk), .second, .val (.long yy), .second, .val (.long cc), .second, .val (.long ee), .second, .val (.long (own_gcd ee cc)), .second]) X18 hx (hb hby at_393) (pc' := 395) rfl rfl ?_
              obtain ⟨hh, hhh⟩ : ∃ z : Int64, z = (own_gcd ee cc) := ⟨_, rfl⟩
              rw [← hhh]
              refine w_iload X18 hx (hb hby at_395) (pc' := 397) rfl rfl ?_
              have hf397 : ¬ ((1 : Int32) = (0 : Int32)) := (by decide)
              refine w_if_eq X18 hx (hb hby at_397) (pf := 400) (pt := 412) rfl (by decide) (by decide) (fun hc => absurd hc hf397) (fun hc397 => ?_)
              refine w_lload X18 hx (hb hby at_400) (pc' := 402) rfl rfl ?_
              refine w_lload X18 hx (hb hby at_402) (pc' := 404) rfl rfl ?_
              refine w_lcmp X18 hx (hb hby at_404) (pc' := 405) rfl ?_
              have hf405 : hh = dd := own_s3d hdd hxx hkk hyy hcc hee (by first | exact Or.inl hhh | exact Or.inr hhh)
              refine w_ifL_ne X18 hx (hb hby at_405) (pf := 408) (pt := 412) rfl (by decide) (by decide) (fun hc => absurd hf405 hc) (fun hc405 => ?_)
              refine w_iconst (v := 1) X18 hx (hb hby at_408) (pc' := 409) rfl rfl ?_
              refine w_goto X18 hx (hb hby at_409) (pc' := 413) (by decide) (by decide) ?_
              refine w_istore (Ls' := #[.val (.long x0), .second, .val (.long x1), .second, .val (.long x2), .second, .val (.long x3), .second, .val (.long x4), .second, .val (.int x5), .val (.long v11), .second, .val (.long v12), .second, .val (.int zz), .val (.long gv), .second, .val (.int (1 : Int32)), .val (.long mk), .second, .val (.long uu), .second, .val (.long vv), .second, .val (.long mu), .second, .val (.long mv), .second, .val (.long g2), .second, .val (.long dd), .second, .val (.long xx), .second, .val (.long kk), .second, .val (.long yy), .second, .val (.long cc), .second, .val (.long ee), .second, .val (.long hh), .second]) X18 hx (hb hby at_413) (pc' := 415) rfl rfl ?_
              refine w_iload X18 hx (hb hby at_415) (pc' := 417) rfl rfl ?_
              exact w_retZ X18 hx hret hlk (hb hby at_417) (by decide) (by decide) ⟨rfl, N18⟩
            · refine w_lload X15 hx (hb hby at_374) (pc' := 376) rfl rfl ?_
              refine w_lload X15 hx (hb hby at_376) (pc' := 378) rfl rfl ?_
              refine w_callS (argsL := [(.long cc), (.long ee)]) (rest := []) X15 hx hZ hown e15 (rm1 l Z a0 hw cc ee h0 n0 (own_s3p hdd hxx hkk hyy hcc hee).1 (own_s3p hdd hxx hkk hyy hcc hee).2) (hw _ (List.mem_of_getElem? (i := 1) rfl)) (hw _ (List.mem_of_getElem? (i := 2) rfl)) (hw _ (List.mem_of_getElem? (i := 3) rfl)) (hw _ (List.mem_of_getElem? (i := 4) rfl)) (by decide) (by decide) (W := 0) (by decide) (by decide) (by decide) (by rw [hml]; rfl) (lenOf pd_2 rfl) (Nat.le_refl _) rfl (hb hby at_378) (pc' := 381) rfl (fun T19 L19 v19 X19 hQ19 => ?_)
              obtain ⟨rfl, N19q, e19⟩ := hQ19
              have N19 := Fr.app N15 N19q
              have X19 : Stand p l e room_1 s m _ below meth c T19 _ 0 0 := X19
              show Go p e below s room_1.cells room_1.slots (QL (some (.int 1)) n0) T19 (mkF m 381 #[.val (.long x0), .second, .val (.long x1), .second, .val (.long x2), .second, .val (.long x3), .second, .val (.long x4), .second, .val (.int x5), .val (.long v11), .second, .val (.long v12), .second, .val (.int zz), .val (.long gv), .second, .val (.int (1 : Int32)), .val (.long mk), .second, .val (.long uu), .second, .val (.long vv), .second, .val (.long mu), .second, .val (.long mv), .second, .val (.long g2), .second, .val (.long dd), .second, .val (.long xx), .second, .val (.long kk), .second, .val (.long yy), .second, .val (.long cc), .second, .val (.long ee), .second, .unset, .unset] [(.long (own_gcd cc ee))])
              refine w_lstore (Ls' := #[.val (.long x0), .second, .val (.long x1), .second, .val (.long x2), .second, .val (.long x3), .second, .val (.long x4), .second, .val (.int x5), .val (.long v11), .second, .val (.long v12), .second, .val (.int zz), .val (.long gv), .second, .val (.int (1 : Int32)), .val (.long mk), .second, .val (.long uu), .second, .val (.long vv), .second, .val (.long mu), .second, .val (.long mv), .second, .val (.long g2), .second, .val (.long dd), .second, .val (.long xx), .second, .val (.long kk), .second, .val (.long yy), .second, .val (.long cc), .second, .val (.long ee), .second, .val (.long (own_gcd cc ee)), .second]) X19 hx (hb hby at_381) (pc' := 383) rfl rfl ?_
              obtain ⟨hh, hhh⟩ : ∃ z : Int64, z = (own_gcd cc ee) := ⟨_, rfl⟩
              rw [← hhh]
              refine w_goto X19 hx (hb hby at_383) (pc' := 395) (by decide) (by decide) ?_
              refine w_iload X19 hx (hb hby at_395) (pc' := 397) rfl rfl ?_
              have hf397 : ¬ ((1 : Int32) = (0 : Int32)) := (by decide)
              refine w_if_eq X19 hx (hb hby at_397) (pf := 400) (pt := 412) rfl (by decide) (by decide) (fun hc => absurd hc hf397) (fun hc397 => ?_)
              refine w_lload X19 hx (hb hby at_400) (pc' := 402) rfl rfl ?_
              refine w_lload X19 hx (hb hby at_402) (pc' := 404) rfl rfl ?_
              refine w_lcmp X19 hx (hb hby at_404) (pc' := 405) rfl ?_
              have hf405 : hh = dd := own_s3d hdd hxx hkk hyy hcc hee (by first | exact Or.inl hhh | exact Or.inr hhh)
              refine w_ifL_ne X19 hx (hb hby at_405) (pf := 408) (pt := 412) rfl (by decide) (by decide) (fun hc => absurd hf405 hc) (fun hc405 => ?_)
              refine w_iconst (v := 1) X19 hx (hb hby at_408) (pc' := 409) rfl rfl ?_
              refine w_goto X19 hx (hb hby at_409) (pc' := 413) (by decide) (by decide) ?_
              refine w_istore (Ls' := #[.val (.long x0), .second, .val (.long x1), .second, .val (.long x2), .second, .val (.long x3), .second, .val (.long x4), .second, .val (.int x5), .val (.long v11), .second, .val (.long v12), .second, .val (.int zz), .val (.long gv), .second, .val (.int (1 : Int32)), .val (.long mk), .second, .val (.long uu), .second, .val (.long vv), .second, .val (.long mu), .second, .val (.long mv), .second, .val (.long g2), .second, .val (.long dd), .second, .val (.long xx), .second, .val (.long kk), .second, .val (.long yy), .second, .val (.long cc), .second, .val (.long ee), .second, .val (.long hh), .second]) X19 hx (hb hby at_413) (pc' := 415) rfl rfl ?_
              refine w_iload X19 hx (hb hby at_415) (pc' := 417) rfl rfl ?_
              exact w_retZ X19 hx hret hlk (hb hby at_417) (by decide) (by decide) ⟨rfl, N19⟩
          · refine w_iload X15 hx (hb hby at_239) (pc' := 241) rfl rfl ?_
            have hf241 : ¬ ((1 : Int32) = (0 : Int32)) := (by decide)
            refine w_if_eq X15 hx (hb hby at_241) (pf := 244) (pt := 255) rfl (by decide) (by decide) (fun hc => absurd hc hf241) (fun hc241 => ?_)
            refine w_lload X15 hx (hb hby at_244) (pc' := 246) rfl rfl ?_
            refine w_lconst (v := 0) X15 hx (hb hby at_246) (pc' := 247) rfl rfl ?_
            refine w_lcmp X15 hx (hb hby at_247) (pc' := 248) rfl ?_
            have hf248 : g2 = (0 : Int64) := (own_a0 (own_s2p hmk huu hvv hmu hmv).2.1 hc229 hg2).trans hc236
            refine w_ifL_ne X15 hx (hb hby at_248) (pf := 251) (pt := 255) rfl (by decide) (by decide) (fun hc => absurd hf248 hc) (fun hc248 => ?_)
            refine w_iconst (v := 1) X15 hx (hb hby at_251) (pc' := 252) rfl rfl ?_
            refine w_goto X15 hx (hb hby at_252) (pc' := 256) (by decide) (by decide) ?_
            refine w_istore (Ls' := #[.val (.long x0), .second, .val (.long x1), .second, .val (.long x2), .second, .val (.long x3), .second, .val (.long x4), .second, .val (.int x5), .val (.long v11), .second, .val (.long v12), .second, .val (.int zz), .val (.long gv), .second, .val (.int (1 : Int32)), .val (.long mk), .second, .val (.long uu), .second, .val (.long vv), .second, .val (.long mu), .second, .val (.long mv), .second, .val (.long g2), .second, .unset, .unset, .unset, .unset, .unset, .unset, .unset, .unset, .unset, .unset, .unset, .unset, .unset, .unset]) X15 hx (hb hby at_256) (pc' := 258) rfl rfl ?_
            refine w_goto X15 hx (hb hby at_258) (pc' := 310) (by decide) (by decide) ?_
            refine w_lload X15 hx (hb hby at_310) (pc' := 312) rfl rfl ?_
            refine w_ldc2 X15 hx hZ hown (hw _ (List.mem_of_getElem? (i := 6) rfl)) (hb hby at_312) (pc' := 315) rfl ?_
            refine w_land X15 hx (hb hby at_315) (pc' := 316) rfl ?_
            refine w_lconst (v := 1) X15 hx (hb hby at_316) (pc' := 317) rfl rfl ?_
            refine w_ladd X15 hx (hb hby at_317) (pc' := 318) rfl ?_
            refine w_lstore (Ls' := #[.val (.long x0), .second, .val (.long x1), .second, .val (.long x2), .second, .val (.long x3), .second, .val (.long x4), .second, .val (.int x5), .val (.long v11), .second, .val (.long v12), .second, .val (.int zz), .val (.long gv), .second, .val (.int (1 : Int32)), .val (.long mk), .second, .val (.long uu), .second, .val (.long vv), .second, .val (.long mu), .second, .val (.long mv), .second, .val (.long g2), .second, .val (.long ((x2 &&& (1048575 : Int64)) + (1 : Int64))), .second, .unset, .unset, .unset, .unset, .unset, .unset, .unset, .unset, .unset, .unset, .unset, .unset]) X15 hx (hb hby at_318) (pc' := 320) rfl rfl ?_
            obtain ⟨dd, hdd⟩ : ∃ z : Int64, z = ((x2 &&& (1048575 : Int64)) + (1 : Int64)) := ⟨_, rfl⟩
            rw [← hdd]
            refine w_lload X15 hx (hb hby at_320) (pc' := 322) rfl rfl ?_
            refine w_bipush (v := 20) X15 hx (hb hby at_322) (pc' := 324) rfl rfl ?_
            refine w_lushr X15 hx (hb hby at_324) (pc' := 325) rfl ?_
            refine w_ldc2 X15 hx hZ hown (hw _ (List.mem_of_getElem? (i := 6) rfl)) (hb hby at_325) (pc' := 328) rfl ?_
            refine w_land X15 hx (hb hby at_328) (pc' := 329) rfl ?_
            refine w_lconst (v := 1) X15 hx (hb hby at_329) (pc' := 330) rfl rfl ?_
            refine w_ladd X15 hx (hb hby at_330) (pc' := 331) rfl ?_
            refine w_lstore (Ls' := #[.val (.long x0), .second, .val (.long x1), .second, .val (.long x2), .second, .val (.long x3), .second, .val (.long x4), .second, .val (.int x5), .val (.long v11), .second, .val (.long v12), .second, .val (.int zz), .val (.long gv), .second, .val (.int (1 : Int32)), .val (.long mk), .second, .val (.long uu), .second, .val (.long vv), .second, .val (.long mu), .second, .val (.long mv), .second, .val (.long g2), .second, .val (.long dd), .second, .val (.long (((jlushr x2 (20 : Int32)) &&& (1048575 : Int64)) + (1 : Int64))), .second, .unset, .unset, .unset, .unset, .unset, .unset, .unset, .unset, .unset, .unset]) X15 hx (hb hby at_331) (pc' := 333) rfl rfl ?_
            obtain ⟨xx, hxx⟩ : ∃ z : Int64, z = (((jlushr x2 (20 : Int32)) &&& (1048575 : Int64)) + (1 : Int64)) := ⟨_, rfl⟩
            rw [← hxx]
            refine w_lload X15 hx (hb hby at_333) (pc' := 335) rfl rfl ?_
            refine w_bipush (v := 40) X15 hx (hb hby at_335) (pc' := 337) rfl rfl ?_
            refine w_lushr X15 hx (hb hby at_337) (pc' := 338) rfl ?_
            refine w_ldc2 X15 hx hZ hown (hw _ (List.mem_of_getElem? (i := 6) rfl)) (hb hby at_338) (pc' := 341) rfl ?_
            refine w_land X15 hx (hb hby at_341) (pc' := 342) rfl ?_
            refine w_lstore (Ls' := #[.val (.long x0), .second, .val (.long x1), .second, .val (.long x2), .second, .val (.long x3), .second, .val (.long x4), .second, .val (.int x5), .val (.long v11), .second, .val (.long v12), .second, .val (.int zz), .val (.long gv), .second, .val (.int (1 : Int32)), .val (.long mk), .second, .val (.long uu), .second, .val (.long vv), .second, .val (.long mu), .second, .val (.long mv), .second, .val (.long g2), .second, .val (.long dd), .second, .val (.long xx), .second, .val (.long ((jlushr x2 (40 : Int32)) &&& (1048575 : Int64))), .second, .unset, .unset, .unset, .unset, .unset, .unset, .unset, .unset]) X15 hx (hb hby at_342) (pc' := 344) rfl rfl ?_
            obtain ⟨kk, hkk⟩ : ∃ z : Int64, z = ((jlushr x2 (40 : Int32)) &&& (1048575 : Int64)) := ⟨_, rfl⟩
            rw [← hkk]
            refine w_lload X15 hx (hb hby at_344) (pc' := 346) rfl rfl ?_
            refine w_lload X15 hx (hb hby at_346) (pc' := 348) rfl rfl ?_
            refine w_lmul X15 hx (hb hby at_348) (pc' := 349) rfl ?_
            refine w_lconst (v := 1) X15 hx (hb hby at_349) (pc' := 350) rfl rfl ?_
            refine w_ladd X15 hx (hb hby at_350) (pc' := 351) rfl ?_
            refine w_lstore (Ls' := #[.val (.long x0), .second, .val (.long x1), .second, .val (.long x2), .second, .val (.long x3), .second, .val (.long x4), .second, .val (.int x5), .val (.long v11), .second, .val (.long v12), .second, .val (.int zz), .val (.long gv), .second, .val (.int (1 : Int32)), .val (.long mk), .second, .val (.long uu), .second, .val (.long vv), .second, .val (.long mu), .second, .val (.long mv), .second, .val (.long g2), .second, .val (.long dd), .second, .val (.long xx), .second, .val (.long kk), .second, .val (.long ((kk * xx) + (1 : Int64))), .second, .unset, .unset, .unset, .unset, .unset, .unset]) X15 hx (hb hby at_351) (pc' := 353) rfl rfl ?_
            obtain ⟨yy, hyy⟩ : ∃ z : Int64, z = ((kk * xx) + (1 : Int64)) := ⟨_, rfl⟩
            rw [← hyy]
            refine w_lload X15 hx (hb hby at_353) (pc' := 355) rfl rfl ?_
            refine w_lload X15 hx (hb hby at_355) (pc' := 357) rfl rfl ?_
            refine w_lmul X15 hx (hb hby at_357) (pc' := 358) rfl ?_
            refine w_lstore (Ls' := #[.val (.long x0), .second, .val (.long x1), .second, .val (.long x2), .second, .val (.long x3), .second, .val (.long x4), .second, .val (.int x5), .val (.long v11), .second, .val (.long v12), .second, .val (.int zz), .val (.long gv), .second, .val (.int (1 : Int32)), .val (.long mk), .second, .val (.long uu), .second, .val (.long vv), .second, .val (.long mu), .second, .val (.long mv), .second, .val (.long g2), .second, .val (.long dd), .second, .val (.long xx), .second, .val (.long kk), .second, .val (.long yy), .second, .val (.long (dd * xx)), .second, .unset, .unset, .unset, .unset]) X15 hx (hb hby at_358) (pc' := 360) rfl rfl ?_
            obtain ⟨cc, hcc⟩ : ∃ z : Int64, z = (dd * xx) := ⟨_, rfl⟩
            rw [← hcc]
            refine w_lload X15 hx (hb hby at_360) (pc' := 362) rfl rfl ?_
            refine w_lload X15 hx (hb hby at_362) (pc' := 364) rfl rfl ?_
            refine w_lmul X15 hx (hb hby at_364) (pc' := 365) rfl ?_
            refine w_lstore (Ls' := #[.val (.long x0), .second, .val (.long x1), .second, .val (.long x2), .second, .val (.long x3), .second, .val (.long x4), .second, .val (.int x5), .val (.long v11), .second, .val (.long v12), .second, .val (.int zz), .val (.long gv), .second, .val (.int (1 : Int32)), .val (.long mk), .second, .val (.long uu), .second, .val (.long vv), .second, .val (.long mu), .second, .val (.long mv), .second, .val (.long g2), .second, .val (.long dd), .second, .val (.long xx), .second, .val (.long kk), .second, .val (.long yy), .second, .val (.long cc), .second, .val (.long (dd * yy)), .second, .unset, .unset]) X15 hx (hb hby at_365) (pc' := 367) rfl rfl ?_
            obtain ⟨ee, hee⟩ : ∃ z : Int64, z = (dd * yy) := ⟨_, rfl⟩
            rw [← hee]
            refine w_iload X15 hx (hb hby at_367) (pc' := 369) rfl rfl ?_
            refine w_iconst (v := 4) X15 hx (hb hby at_369) (pc' := 370) rfl rfl ?_
            refine w_iand X15 hx (hb hby at_370) (pc' := 371) rfl ?_
            refine w_if_eq X15 hx (hb hby at_371) (pf := 374) (pt := 386) rfl (by decide) (by decide) (fun hc371 => ?_) (fun hc371 => ?_)
            · refine w_lload X15 hx (hb hby at_386) (pc' := 388) rfl rfl ?_
              refine w_lload X15 hx (hb hby at_388) (pc' := 390) rfl rfl ?_
              refine w_callS (argsL := [(.long ee), (.long cc)]) (rest := []) X15 hx hZ hown e15 (rm1 l Z a0 hw ee cc h0 n0 (own_s3p hdd hxx hkk hyy hcc hee).2 (own_s3p hdd hxx hkk hyy hcc hee).1) (hw _ (List.mem_of_getElem? (i := 1) rfl)) (hw _ (List.mem_of_getElem? (i := 2) rfl)) (hw _ (List.mem_of_getElem? (i := 3) rfl)) (hw _ (List.mem_of_getElem? (i := 4) rfl)) (by decide) (by decide) (W := 0) (by decide) (by decide) (by decide) (by rw [hml]; rfl) (lenOf pd_2 rfl) (Nat.le_refl _) rfl (hb hby at_390) (pc' := 393) rfl (fun T20 L20 v20 X20 hQ20 => ?_)
              obtain ⟨rfl, N20q, e20⟩ := hQ20
              have N20 := Fr.app N15 N20q
              have X20 : Stand p l e room_1 s m _ below meth c T20 _ 0 0 := X20
              show Go p e below s room_1.cells room_1.slots (QL (some (.int 1)) n0) T20 (mkF m 393 #[.val (.long x0), .second, .val (.long x1), .second, .val (.long x2), .second, .val (.long x3), .second, .val (.long x4), .second, .val (.int x5), .val (.long v11), .second, .val (.long v12), .second, .val (.int zz), .val (.long gv), .second, .val (.int (1 : Int32)), .val (.long mk), .second, .val (.long uu), .second, .val (.long vv), .second, .val (.long mu), .second, .val (.long mv), .second, .val (.long g2), .second, .val (.long dd), .second, .val (.long xx), .second, .val (.long kk), .second, .val (.long yy), .second, .val (.long cc), .second, .val (.long ee), .second, .unset, .unset] [(.long (own_gcd ee cc))])
              refine w_lstore (Ls' := #[.val (.long x0), .second, .val (.long x1), .second, .val (.long x2), .second, .val (.long x3), .second, .val (.long x4), .second, .val (.int x5), .val (.long v11), .second, .val (.long v12), .second, .val (.int zz), .val (.long gv), .second, .val (.int (1 : Int32)), .val (.long mk), .second, .val (.long uu), .second, .val (.long vv), .second, .val (.long mu), .second, .val (.long mv), .second, .val (.long g2), .second, .val (.long dd), .second, .val (.long xx), .second, .val (.long kk), .second, .val (.long yy), .second, .val (.long cc), .second, .val (.long ee), .second, .val (.long (own_gcd ee cc)), .second]) X20 hx (hb hby at_393) (pc' := 395) rfl rfl ?_
              obtain ⟨hh, hhh⟩ : ∃ z : Int64, z = (own_gcd ee cc) := ⟨_, rfl⟩
              rw [← hhh]
              refine w_iload X20 hx (hb hby at_395) (pc' := 397) rfl rfl ?_
              have hf397 : ¬ ((1 : Int32) = (0 : Int32)) := (by decide)
              refine w_if_eq X20 hx (hb hby at_397) (pf := 400) (pt := 412) rfl (by decide) (by decide) (fun hc => absurd hc hf397) (fun hc397 => ?_)
              refine w_lload X20 hx (hb hby at_400) (pc' := 402) rfl rfl ?_
              refine w_lload X20 hx (hb hby at_402) (pc' := 404) rfl rfl ?_
              refine w_lcmp X20 hx (hb hby at_404) (pc' := 405) rfl ?_
              have hf405 : hh = dd := own_s3d hdd hxx hkk hyy hcc hee (by first | exact Or.inl hhh | exact Or.inr hhh)
              refine w_ifL_ne X20 hx (hb hby at_405) (pf := 408) (pt := 412) rfl (by decide) (by decide) (fun hc => absurd hf405 hc) (fun hc405 => ?_)
              refine w_iconst (v := 1) X20 hx (hb hby at_408) (pc' := 409) rfl rfl ?_
              refine w_goto X20 hx (hb hby at_409) (pc' := 413) (by decide) (by decide) ?_
              refine w_istore (Ls' := #[.val (.long x0), .second, .val (.long x1), .second, .val (.long x2), .second, .val (.long x3), .second, .val (.long x4), .second, .val (.int x5), .val (.long v11), .second, .val (.long v12), .second, .val (.int zz), .val (.long gv), .second, .val (.int (1 : Int32)), .val (.long mk), .second, .val (.long uu), .second, .val (.long vv), .second, .val (.long mu), .second, .val (.long mv), .second, .val (.long g2), .second, .val (.long dd), .second, .val (.long xx), .second, .val (.long kk), .second, .val (.long yy), .second, .val (.long cc), .second, .val (.long ee), .second, .val (.long hh), .second]) X20 hx (hb hby at_413) (pc' := 415) rfl rfl ?_
              refine w_iload X20 hx (hb hby at_415) (pc' := 417) rfl rfl ?_
              exact w_retZ X20 hx hret hlk (hb hby at_417) (by decide) (by decide) ⟨rfl, N20⟩
            · refine w_lload X15 hx (hb hby at_374) (pc' := 376) rfl rfl ?_
              refine w_lload X15 hx (hb hby at_376) (pc' := 378) rfl rfl ?_
              refine w_callS (argsL := [(.long cc), (.long ee)]) (rest := []) X15 hx hZ hown e15 (rm1 l Z a0 hw cc ee h0 n0 (own_s3p hdd hxx hkk hyy hcc hee).1 (own_s3p hdd hxx hkk hyy hcc hee).2) (hw _ (List.mem_of_getElem? (i := 1) rfl)) (hw _ (List.mem_of_getElem? (i := 2) rfl)) (hw _ (List.mem_of_getElem? (i := 3) rfl)) (hw _ (List.mem_of_getElem? (i := 4) rfl)) (by decide) (by decide) (W := 0) (by decide) (by decide) (by decide) (by rw [hml]; rfl) (lenOf pd_2 rfl) (Nat.le_refl _) rfl (hb hby at_378) (pc' := 381) rfl (fun T21 L21 v21 X21 hQ21 => ?_)
              obtain ⟨rfl, N21q, e21⟩ := hQ21
              have N21 := Fr.app N15 N21q
              have X21 : Stand p l e room_1 s m _ below meth c T21 _ 0 0 := X21
              show Go p e below s room_1.cells room_1.slots (QL (some (.int 1)) n0) T21 (mkF m 381 #[.val (.long x0), .second, .val (.long x1), .second, .val (.long x2), .second, .val (.long x3), .second, .val (.long x4), .second, .val (.int x5), .val (.long v11), .second, .val (.long v12), .second, .val (.int zz), .val (.long gv), .second, .val (.int (1 : Int32)), .val (.long mk), .second, .val (.long uu), .second, .val (.long vv), .second, .val (.long mu), .second, .val (.long mv), .second, .val (.long g2), .second, .val (.long dd), .second, .val (.long xx), .second, .val (.long kk), .second, .val (.long yy), .second, .val (.long cc), .second, .val (.long ee), .second, .unset, .unset] [(.long (own_gcd cc ee))])
              refine w_lstore (Ls' := #[.val (.long x0), .second, .val (.long x1), .second, .val (.long x2), .second, .val (.long x3), .second, .val (.long x4), .second, .val (.int x5), .val (.long v11), .second, .val (.long v12), .second, .val (.int zz), .val (.long gv), .second, .val (.int (1 : Int32)), .val (.long mk), .second, .val (.long uu), .second, .val (.long vv), .second, .val (.long mu), .second, .val (.long mv), .second, .val (.long g2), .second, .val (.long dd), .second, .val (.long xx), .second, .val (.long kk), .second, .val (.long yy), .second, .val (.long cc), .second, .val (.long ee), .second, .val (.long (own_gcd cc ee)), .second]) X21 hx (hb hby at_381) (pc' := 383) rfl rfl ?_
              obtain ⟨hh, hhh⟩ : ∃ z : Int64, z = (own_gcd cc ee) := ⟨_, rfl⟩
              rw [← hhh]
              refine w_goto X21 hx (hb hby at_383) (pc' := 395) (by decide) (by decide) ?_
              refine w_iload X21 hx (hb hby at_395) (pc' := 397) rfl rfl ?_
              have hf397 : ¬ ((1 : Int32) = (0 : Int32)) := (by decide)
              refine w_if_eq X21 hx (hb hby at_397) (pf := 400) (pt := 412) rfl (by decide) (by decide) (fun hc => absurd hc hf397) (fun hc397 => ?_)
              refine w_lload X21 hx (hb hby at_400) (pc' := 402) rfl rfl ?_
              refine w_lload X21 hx (hb hby at_402) (pc' := 404) rfl rfl ?_
              refine w_lcmp X21 hx (hb hby at_404) (pc' := 405) rfl ?_
              have hf405 : hh = dd := own_s3d hdd hxx hkk hyy hcc hee (by first | exact Or.inl hhh | exact Or.inr hhh)
              refine w_ifL_ne X21 hx (hb hby at_405) (pf := 408) (pt := 412) rfl (by decide) (by decide) (fun hc => absurd hf405 hc) (fun hc405 => ?_)
              refine w_iconst (v := 1) X21 hx (hb hby at_408) (pc' := 409) rfl rfl ?_
              refine w_goto X21 hx (hb hby at_409) (pc' := 413) (by decide) (by decide) ?_
              refine w_istore (Ls' := #[.val (.long x0), .second, .val (.long x1), .second, .val (.long x2), .second, .val (.long x3), .second, .val (.long x4), .second, .val (.int x5), .val (.long v11), .second, .val (.long v12), .second, .val (.int zz), .val (.long gv), .second, .val (.int (1 : Int32)), .val (.long mk), .second, .val (.long uu), .second, .val (.long vv), .second, .val (.long mu), .second, .val (.long mv), .second, .val (.long g2), .second, .val (.long dd), .second, .val (.long xx), .second, .val (.long kk), .second, .val (.long yy), .second, .val (.long cc), .second, .val (.long ee), .second, .val (.long hh), .second]) X21 hx (hb hby at_413) (pc' := 415) rfl rfl ?_
              refine w_iload X21 hx (hb hby at_415) (pc' := 417) rfl rfl ?_
              exact w_retZ X21 hx hret hlk (hb hby at_417) (by decide) (by decide) ⟨rfl, N21⟩
      · refine w_lload X14 hx (hb hby at_97) (pc' := 99) rfl rfl ?_
        refine w_lload X14 hx (hb hby at_99) (pc' := 101) rfl rfl ?_
        refine w_lcmp X14 hx (hb hby at_101) (pc' := 102) rfl ?_
        have hf102 : gv = v11 := own_b0 (own_va (by first | exact Or.inl rfl | exact Or.inr ha1) (by first | exact Or.inl rfl | exact Or.inr ha1) (by first | exact Or.inl rfl | exact Or.inr ha1) (by first | exact Or.inl rfl | exact Or.inr ha1) hv11) hc94 hgv
        refine w_ifL_ne X14 hx (hb hby at_102) (pf := 105) (pt := 109) rfl (by decide) (by decide) (fun hc => absurd hf102 hc) (fun hc102 => ?_)
        refine w_iconst (v := 1) X14 hx (hb hby at_105) (pc' := 106) rfl rfl ?_
        refine w_goto X14 hx (hb hby at_106) (pc' := 110) (by decide) (by decide) ?_
        refine w_istore (Ls' := #[.val (.long x0), .second, .val (.long x1), .second, .val (.long x2), .second, .val (.long x3), .second, .val (.long x4), .second, .val (.int x5), .val (.long v11), .second, .val (.long v12), .second, .val (.int zz), .val (.long gv), .second, .val (.int (1 : Int32)), .unset, .unset, .unset, .unset, .unset, .unset, .unset, .unset, .unset, .unset, .unset, .unset, .unset, .unset, .unset, .unset, .unset, .unset, .unset, .unset, .unset, .unset, .unset, .unset, .unset, .unset]) X14 hx (hb hby at_110) (pc' := 112) rfl rfl ?_
        refine w_goto X14 hx (hb hby at_112) (pc' := 173) (by decide) (by decide) ?_
        refine w_lload X14 hx (hb hby at_173) (pc' := 175) rfl rfl ?_
        refine w_ldc2 X14 hx hZ hown (hw _ (List.mem_of_getElem? (i := 5) rfl)) (hb hby at_175) (pc' := 178) rfl ?_
        refine w_land X14 hx (hb hby at_178) (pc' := 179) rfl ?_
        refine w_lconst (v := 1) X14 hx (hb hby at_179) (pc' := 180) rfl rfl ?_
        refine w_ladd X14 hx (hb hby at_180) (pc' := 181) rfl ?_
        refine w_lstore (Ls' := #[.val (.long x0), .second, .val (.long x1), .second, .val (.long x2), .second, .val (.long x3), .second, .val (.long x4), .second, .val (.int x5), .val (.long v11), .second, .val (.long v12), .second, .val (.int zz), .val (.long gv), .second, .val (.int (1 : Int32)), .val (.long ((x3 &&& (2147483647 : Int64)) + (1 : Int64))), .second, .unset, .unset, .unset, .unset, .unset, .unset, .unset, .unset, .unset, .unset, .unset, .unset, .unset, .unset, .unset, .unset, .unset, .unset, .unset, .unset, .unset, .unset, .unset, .unset]) X14 hx (hb hby at_181) (pc' := 183) rfl rfl ?_
        obtain ⟨mk, hmk⟩ : ∃ z : Int64, z = ((x3 &&& (2147483647 : Int64)) + (1 : Int64)) := ⟨_, rfl⟩
        rw [← hmk]
        refine w_lload X14 hx (hb hby at_183) (pc' := 185) rfl rfl ?_
        refine w_bipush (v := 33) X14 hx (hb hby at_185) (pc' := 187) rfl rfl ?_
        refine w_lushr X14 hx (hb hby at_187) (pc' := 188) rfl ?_
        refine w_ldc2 X14 hx hZ hown (hw _ (List.mem_of_getElem? (i := 5) rfl)) (hb hby at_188) (pc' := 191) rfl ?_
        refine w_land X14 hx (hb hby at_191) (pc' := 192) rfl ?_
        refine w_lstore (Ls' := #[.val (.long x0), .second, .val (.long x1), .second, .val (.long x2), .second, .val (.long x3), .second, .val (.long x4), .second, .val (.int x5), .val (.long v11), .second, .val (.long v12), .second, .val (.int zz), .val (.long gv), .second, .val (.int (1 : Int32)), .val (.long mk), .second, .val (.long ((jlushr x3 (33 : Int32)) &&& (2147483647 : Int64))), .second, .unset, .unset, .unset, .unset, .unset, .unset, .unset, .unset, .unset, .unset, .unset, .unset, .unset, .unset, .unset, .unset, .unset, .unset, .unset, .unset, .unset, .unset]) X14 hx (hb hby at_192) (pc' := 194) rfl rfl ?_
        obtain ⟨uu, huu⟩ : ∃ z : Int64, z = ((jlushr x3 (33 : Int32)) &&& (2147483647 : Int64)) := ⟨_, rfl⟩
        rw [← huu]
        refine w_lload X14 hx (hb hby at_194) (pc' := 196) rfl rfl ?_
        refine w_ldc2 X14 hx hZ hown (hw _ (List.mem_of_getElem? (i := 5) rfl)) (hb hby at_196) (pc' := 199) rfl ?_
        refine w_land X14 hx (hb hby at_199) (pc' := 200) rfl ?_
        refine w_lstore (Ls' := #[.val (.long x0), .second, .val (.long x1), .second, .val (.long x2), .second, .val (.long x3), .second, .val (.long x4), .second, .val (.int x5), .val (.long v11), .second, .val (.long v12), .second, .val (.int zz), .val (.long gv), .second, .val (.int (1 : Int32)), .val (.long mk), .second, .val (.long uu), .second, .val (.long (x4 &&& (2147483647 : Int64))), .second, .unset, .unset, .unset, .unset, .unset, .unset, .unset, .unset, .unset, .unset, .unset, .unset, .unset, .unset, .unset, .unset, .unset, .unset, .unset, .unset]) X14 hx (hb hby at_200) (pc' := 202) rfl rfl ?_
        obtain ⟨vv, hvv⟩ : ∃ z : Int64, z = (x4 &&& (2147483647 : Int64)) := ⟨_, rfl⟩
        rw [← hvv]
        refine w_lload X14 hx (hb hby at_202) (pc' := 204) rfl rfl ?_
        refine w_lload X14 hx (hb hby at_204) (pc' := 206) rfl rfl ?_
        refine w_lmul X14 hx (hb hby at_206) (pc' := 207) rfl ?_
        refine w_lstore (Ls' := #[.val (.long x0), .second, .val (.long x1), .second, .val (.long x2), .second, .val (.long x3), .second, .val (.long x4), .second, .val (.int x5), .val (.long v11), .second, .val (.long v12), .second, .val (.int zz), .val (.long gv), .second, .val (.int (1 : Int32)), .val (.long mk), .second, .val (.long uu), .second, .val (.long vv), .second, .val (.long (mk * uu)), .second, .unset, .unset, .unset, .unset, .unset, .unset, .unset, .unset, .unset, .unset, .unset, .unset, .unset, .unset, .unset, .unset, .unset, .unset]) X14 hx (hb hby at_207) (pc' := 209) rfl rfl ?_
        obtain ⟨mu, hmu⟩ : ∃ z : Int64, z = (mk * uu) := ⟨_, rfl⟩
        rw [← hmu]
        refine w_lload X14 hx (hb hby at_209) (pc' := 211) rfl rfl ?_
        refine w_lload X14 hx (hb hby at_211) (pc' := 213) rfl rfl ?_
        refine w_lmul X14 hx (hb hby at_213) (pc' := 214) rfl ?_
        refine w_lstore (Ls' := #[.val (.long x0), .second, .val (.long x1), .second, .val (.long x2), .second, .val (.long x3), .second, .val (.long x4), .second, .val (.int x5), .val (.long v11), .second, .val (.long v12), .second, .val (.int zz), .val (.long gv), .second, .val (.int (1 : Int32)), .val (.long mk), .second, .val (.long uu), .second, .val (.long vv), .second, .val (.long mu), .second, .val (.long (mk * vv)), .second, .unset, .unset, .unset, .unset, .unset, .unset, .unset, .unset, .unset, .unset, .unset, .unset, .unset, .unset, .unset, .unset]) X14 hx (hb hby at_214) (pc' := 216) rfl rfl ?_
        obtain ⟨mv, hmv⟩ : ∃ z : Int64, z = (mk * vv) := ⟨_, rfl⟩
        rw [← hmv]
        refine w_lload X14 hx (hb hby at_216) (pc' := 218) rfl rfl ?_
        refine w_lload X14 hx (hb hby at_218) (pc' := 220) rfl rfl ?_
        refine w_callS (argsL := [(.long mu), (.long mv)]) (rest := []) X14 hx hZ hown e14 (rm1 l Z a0 hw mu mv h0 n0 (own_s2p hmk huu hvv hmu hmv).1 (own_s2p hmk huu hvv hmu hmv).2.1) (hw _ (List.mem_of_getElem? (i := 1) rfl)) (hw _ (List.mem_of_getElem? (i := 2) rfl)) (hw _ (List.mem_of_getElem? (i := 3) rfl)) (hw _ (List.mem_of_getElem? (i := 4) rfl)) (by decide) (by decide) (W := 0) (by decide) (by decide) (by decide) (by rw [hml]; rfl) (lenOf pd_2 rfl) (Nat.le_refl _) rfl (hb hby at_220) (pc' := 223) rfl (fun T22 L22 v22 X22 hQ22 => ?_)
        obtain ⟨rfl, N22q, e22⟩ := hQ22
        have N22 := Fr.app N14 N22q
        have X22 : Stand p l e room_1 s m _ below meth c T22 _ 0 0 := X22
        show Go p e below s room_1.cells room_1.slots (QL (some (.int 1)) n0) T22 (mkF m 223 #[.val (.long x0), .second, .val (.long x1), .second, .val (.long x2), .second, .val (.long x3), .second, .val (.long x4), .second, .val (.int x5), .val (.long v11), .second, .val (.long v12), .second, .val (.int zz), .val (.long gv), .second, .val (.int (1 : Int32)), .val (.long mk), .second, .val (.long uu), .second, .val (.long vv), .second, .val (.long mu), .second, .val (.long mv), .second, .unset, .unset, .unset, .unset, .unset, .unset, .unset, .unset, .unset, .unset, .unset, .unset, .unset, .unset, .unset, .unset] [(.long (own_gcd mu mv))])
        refine w_lstore (Ls' := #[.val (.long x0), .second, .val (.long x1), .second, .val (.long x2), .second, .val (.long x3), .second, .val (.long x4), .second, .val (.int x5), .val (.long v11), .second, .val (.long v12), .second, .val (.int zz), .val (.long gv), .second, .val (.int (1 : Int32)), .val (.long mk), .second, .val (.long uu), .second, .val (.long vv), .second, .val (.long mu), .second, .val (.long mv), .second, .val (.long (own_gcd mu mv)), .second, .unset, .unset, .unset, .unset, .unset, .unset, .unset, .unset, .unset, .unset, .unset, .unset, .unset, .unset]) X22 hx (hb hby at_223) (pc' := 225) rfl rfl ?_
        obtain ⟨g2, hg2⟩ : ∃ z : Int64, z = (own_gcd mu mv) := ⟨_, rfl⟩
        rw [← hg2]
        refine w_lload X22 hx (hb hby at_225) (pc' := 227) rfl rfl ?_
        refine w_lconst (v := 0) X22 hx (hb hby at_227) (pc' := 228) rfl rfl ?_
        refine w_lcmp X22 hx (hb hby at_228) (pc' := 229) rfl ?_
        refine w_ifL_ne X22 hx (hb hby at_229) (pf := 232) (pt := 261) rfl (by decide) (by decide) (fun hc229 => ?_) (fun hc229 => ?_)
        · refine w_iload X22 hx (hb hby at_261) (pc' := 263) rfl rfl ?_
          have hf263 : ¬ ((1 : Int32) = (0 : Int32)) := (by decide)
          refine w_if_eq X22 hx (hb hby at_263) (pf := 266) (pt := 307) rfl (by decide) (by decide) (fun hc => absurd hc hf263) (fun hc263 => ?_)
          refine w_lload X22 hx (hb hby at_266) (pc' := 268) rfl rfl ?_
          refine w_lconst (v := 0) X22 hx (hb hby at_268) (pc' := 269) rfl rfl ?_
          refine w_lcmp X22 hx (hb hby at_269) (pc' := 270) rfl ?_
          have hf270 : (0 : Int64) < g2 := (own_gpos (own_s2p hmk huu hvv hmu hmv).1 (own_s2p hmk huu hvv hmu hmv).2.1 (by first | exact Or.inl hc229 | exact Or.inr hc236) hg2).1
          refine w_ifL_le X22 hx (hb hby at_270) (pf := 273) (pt := 307) rfl (by decide) (by decide) (fun hc => absurd hf270 hc) (fun hc270 => ?_)
          refine w_lload X22 hx (hb hby at_273) (pc' := 275) rfl rfl ?_
          refine w_lload X22 hx (hb hby at_275) (pc' := 277) rfl rfl ?_
          refine w_lrem X22 hx (hb hby at_277) (pc' := 278) rfl (own_s2p hmk huu hvv hmu hmv).2.2 ?_
          refine w_lconst (v := 0) X22 hx (hb hby at_278) (pc' := 279) rfl rfl ?_
          refine w_lcmp X22 hx (hb hby at_279) (pc' := 280) rfl ?_
          have hf280 : (g2 % mk) = (0 : Int64) := own_s2d hmk huu hvv hmu hmv hg2
          refine w_ifL_ne X22 hx (hb hby at_280) (pf := 283) (pt := 307) rfl (by decide) (by decide) (fun hc => absurd hf280 hc) (fun hc280 => ?_)
          refine w_lload X22 hx (hb hby at_283) (pc' := 285) rfl rfl ?_
          refine w_lload X22 hx (hb hby at_285) (pc' := 287) rfl rfl ?_
          refine w_lrem X22 hx (hb hby at_287) (pc' := 288) rfl (own_gpos (own_s2p hmk huu hvv hmu hmv).1 (own_s2p hmk huu hvv hmu hmv).2.1 (by first | exact Or.inl hc229 | exact Or.inr hc236) hg2).2.2.2.1 ?_
          refine w_lconst (v := 0) X22 hx (hb hby at_288) (pc' := 289) rfl rfl ?_
          refine w_lcmp X22 hx (hb hby at_289) (pc' := 290) rfl ?_
          have hf290 : (mu % g2) = (0 : Int64) := (own_gpos (own_s2p hmk huu hvv hmu hmv).1 (own_s2p hmk huu hvv hmu hmv).2.1 (by first | exact Or.inl hc229 | exact Or.inr hc236) hg2).2.1
          refine w_ifL_ne X22 hx (hb hby at_290) (pf := 293) (pt := 307) rfl (by decide) (by decide) (fun hc => absurd hf290 hc) (fun hc290 => ?_)
          refine w_lload X22 hx (hb hby at_293) (pc' := 295) rfl rfl ?_
          refine w_lload X22 hx (hb hby at_295) (pc' := 297) rfl rfl ?_
          refine w_lrem X22 hx (hb hby at_297) (pc' := 298) rfl (own_gpos (own_s2p hmk huu hvv hmu hmv).1 (own_s2p hmk huu hvv hmu hmv).2.1 (by first | exact Or.inl hc229 | exact Or.inr hc236) hg2).2.2.2.1 ?_
          refine w_lconst (v := 0) X22 hx (hb hby at_298) (pc' := 299) rfl rfl ?_
          refine w_lcmp X22 hx (hb hby at_299) (pc' := 300) rfl ?_
          have hf300 : (mv % g2) = (0 : Int64) := (own_gpos (own_s2p hmk huu hvv hmu hmv).1 (own_s2p hmk huu hvv hmu hmv).2.1 (by first | exact Or.inl hc229 | exact Or.inr hc236) hg2).2.2.1
          refine w_ifL_ne X22 hx (hb hby at_300) (pf := 303) (pt := 307) rfl (by decide) (by decide) (fun hc => absurd hf300 hc) (fun hc300 => ?_)
          refine w_iconst (v := 1) X22 hx (hb hby at_303) (pc' := 304) rfl rfl ?_
          refine w_goto X22 hx (hb hby at_304) (pc' := 308) (by decide) (by decide) ?_
          refine w_istore (Ls' := #[.val (.long x0), .second, .val (.long x1), .second, .val (.long x2), .second, .val (.long x3), .second, .val (.long x4), .second, .val (.int x5), .val (.long v11), .second, .val (.long v12), .second, .val (.int zz), .val (.long gv), .second, .val (.int (1 : Int32)), .val (.long mk), .second, .val (.long uu), .second, .val (.long vv), .second, .val (.long mu), .second, .val (.long mv), .second, .val (.long g2), .second, .unset, .unset, .unset, .unset, .unset, .unset, .unset, .unset, .unset, .unset, .unset, .unset, .unset, .unset]) X22 hx (hb hby at_308) (pc' := 310) rfl rfl ?_
          refine w_lload X22 hx (hb hby at_310) (pc' := 312) rfl rfl ?_
          refine w_ldc2 X22 hx hZ hown (hw _ (List.mem_of_getElem? (i := 6) rfl)) (hb hby at_312) (pc' := 315) rfl ?_
          refine w_land X22 hx (hb hby at_315) (pc' := 316) rfl ?_
          refine w_lconst (v := 1) X22 hx (hb hby at_316) (pc' := 317) rfl rfl ?_
          refine w_ladd X22 hx (hb hby at_317) (pc' := 318) rfl ?_
          refine w_lstore (Ls' := #[.val (.long x0), .second, .val (.long x1), .second, .val (.long x2), .second, .val (.long x3), .second, .val (.long x4), .second, .val (.int x5), .val (.long v11), .second, .val (.long v12), .second, .val (.int zz), .val (.long gv), .second, .val (.int (1 : Int32)), .val (.long mk), .second, .val (.long uu), .second, .val (.long vv), .second, .val (.long mu), .second, .val (.long mv), .second, .val (.long g2), .second, .val (.long ((x2 &&& (1048575 : Int64)) + (1 : Int64))), .second, .unset, .unset, .unset, .unset, .unset, .unset, .unset, .unset, .unset, .unset, .unset, .unset]) X22 hx (hb hby at_318) (pc' := 320) rfl rfl ?_
          obtain ⟨dd, hdd⟩ : ∃ z : Int64, z = ((x2 &&& (1048575 : Int64)) + (1 : Int64)) := ⟨_, rfl⟩
          rw [← hdd]
          refine w_lload X22 hx (hb hby at_320) (pc' := 322) rfl rfl ?_
          refine w_bipush (v := 20) X22 hx (hb hby at_322) (pc' := 324) rfl rfl ?_
          refine w_lushr X22 hx (hb hby at_324) (pc' := 325) rfl ?_
          refine w_ldc2 X22 hx hZ hown (hw _ (List.mem_of_getElem? (i := 6) rfl)) (hb hby at_325) (pc' := 328) rfl ?_
          refine w_land X22 hx (hb hby at_328) (pc' := 329) rfl ?_
          refine w_lconst (v := 1) X22 hx (hb hby at_329) (pc' := 330) rfl rfl ?_
          refine w_ladd X22 hx (hb hby at_330) (pc' := 331) rfl ?_
          refine w_lstore (Ls' := #[.val (.long x0), .second, .val (.long x1), .second, .val (.long x2), .second, .val (.long x3), .second, .val (.long x4), .second, .val (.int x5), .val (.long v11), .second, .val (.long v12), .second, .val (.int zz), .val (.long gv), .second, .val (.int (1 : Int32)), .val (.long mk), .second, .val (.long uu), .second, .val (.long vv), .second, .val (.long mu), .second, .val (.long mv), .second, .val (.long g2), .second, .val (.long dd), .second, .val (.long (((jlushr x2 (20 : Int32)) &&& (1048575 : Int64)) + (1 : Int64))), .second, .unset, .unset, .unset, .unset, .unset, .unset, .unset, .unset, .unset, .unset]) X22 hx (hb hby at_331) (pc' := 333) rfl rfl ?_
          obtain ⟨xx, hxx⟩ : ∃ z : Int64, z = (((jlushr x2 (20 : Int32)) &&& (1048575 : Int64)) + (1 : Int64)) := ⟨_, rfl⟩
          rw [← hxx]
          refine w_lload X22 hx (hb hby at_333) (pc' := 335) rfl rfl ?_
          refine w_bipush (v := 40) X22 hx (hb hby at_335) (pc' := 337) rfl rfl ?_
          refine w_lushr X22 hx (hb hby at_337) (pc' := 338) rfl ?_
          refine w_ldc2 X22 hx hZ hown (hw _ (List.mem_of_getElem? (i := 6) rfl)) (hb hby at_338) (pc' := 341) rfl ?_
          refine w_land X22 hx (hb hby at_341) (pc' := 342) rfl ?_
          refine w_lstore (Ls' := #[.val (.long x0), .second, .val (.long x1), .second, .val (.long x2), .second, .val (.long x3), .second, .val (.long x4), .second, .val (.int x5), .val (.long v11), .second, .val (.long v12), .second, .val (.int zz), .val (.long gv), .second, .val (.int (1 : Int32)), .val (.long mk), .second, .val (.long uu), .second, .val (.long vv), .second, .val (.long mu), .second, .val (.long mv), .second, .val (.long g2), .second, .val (.long dd), .second, .val (.long xx), .second, .val (.long ((jlushr x2 (40 : Int32)) &&& (1048575 : Int64))), .second, .unset, .unset, .unset, .unset, .unset, .unset, .unset, .unset]) X22 hx (hb hby at_342) (pc' := 344) rfl rfl ?_
          obtain ⟨kk, hkk⟩ : ∃ z : Int64, z = ((jlushr x2 (40 : Int32)) &&& (1048575 : Int64)) := ⟨_, rfl⟩
          rw [← hkk]
          refine w_lload X22 hx (hb hby at_344) (pc' := 346) rfl rfl ?_
          refine w_lload X22 hx (hb hby at_346) (pc' := 348) rfl rfl ?_
          refine w_lmul X22 hx (hb hby at_348) (pc' := 349) rfl ?_
          refine w_lconst (v := 1) X22 hx (hb hby at_349) (pc' := 350) rfl rfl ?_
          refine w_ladd X22 hx (hb hby at_350) (pc' := 351) rfl ?_
          refine w_lstore (Ls' := #[.val (.long x0), .second, .val (.long x1), .second, .val (.long x2), .second, .val (.long x3), .second, .val (.long x4), .second, .val (.int x5), .val (.long v11), .second, .val (.long v12), .second, .val (.int zz), .val (.long gv), .second, .val (.int (1 : Int32)), .val (.long mk), .second, .val (.long uu), .second, .val (.long vv), .second, .val (.long mu), .second, .val (.long mv), .second, .val (.long g2), .second, .val (.long dd), .second, .val (.long xx), .second, .val (.long kk), .second, .val (.long ((kk * xx) + (1 : Int64))), .second, .unset, .unset, .unset, .unset, .unset, .unset]) X22 hx (hb hby at_351) (pc' := 353) rfl rfl ?_
          obtain ⟨yy, hyy⟩ : ∃ z : Int64, z = ((kk * xx) + (1 : Int64)) := ⟨_, rfl⟩
          rw [← hyy]
          refine w_lload X22 hx (hb hby at_353) (pc' := 355) rfl rfl ?_
          refine w_lload X22 hx (hb hby at_355) (pc' := 357) rfl rfl ?_
          refine w_lmul X22 hx (hb hby at_357) (pc' := 358) rfl ?_
          refine w_lstore (Ls' := #[.val (.long x0), .second, .val (.long x1), .second, .val (.long x2), .second, .val (.long x3), .second, .val (.long x4), .second, .val (.int x5), .val (.long v11), .second, .val (.long v12), .second, .val (.int zz), .val (.long gv), .second, .val (.int (1 : Int32)), .val (.long mk), .second, .val (.long uu), .second, .val (.long vv), .second, .val (.long mu), .second, .val (.long mv), .second, .val (.long g2), .second, .val (.long dd), .second, .val (.long xx), .second, .val (.long kk), .second, .val (.long yy), .second, .val (.long (dd * xx)), .second, .unset, .unset, .unset, .unset]) X22 hx (hb hby at_358) (pc' := 360) rfl rfl ?_
          obtain ⟨cc, hcc⟩ : ∃ z : Int64, z = (dd * xx) := ⟨_, rfl⟩
          rw [← hcc]
          refine w_lload X22 hx (hb hby at_360) (pc' := 362) rfl rfl ?_
          refine w_lload X22 hx (hb hby at_362) (pc' := 364) rfl rfl ?_
          refine w_lmul X22 hx (hb hby at_364) (pc' := 365) rfl ?_
          refine w_lstore (Ls' := #[.val (.long x0), .second, .val (.long x1), .second, .val (.long x2), .second, .val (.long x3), .second, .val (.long x4), .second, .val (.int x5), .val (.long v11), .second, .val (.long v12), .second, .val (.int zz), .val (.long gv), .second, .val (.int (1 : Int32)), .val (.long mk), .second, .val (.long uu), .second, .val (.long vv), .second, .val (.long mu), .second, .val (.long mv), .second, .val (.long g2), .second, .val (.long dd), .second, .val (.long xx), .second, .val (.long kk), .second, .val (.long yy), .second, .val (.long cc), .second, .val (.long (dd * yy)), .second, .unset, .unset]) X22 hx (hb hby at_365) (pc' := 367) rfl rfl ?_
          obtain ⟨ee, hee⟩ : ∃ z : Int64, z = (dd * yy) := ⟨_, rfl⟩
          rw [← hee]
          refine w_iload X22 hx (hb hby at_367) (pc' := 369) rfl rfl ?_
          refine w_iconst (v := 4) X22 hx (hb hby at_369) (pc' := 370) rfl rfl ?_
          refine w_iand X22 hx (hb hby at_370) (pc' := 371) rfl ?_
          refine w_if_eq X22 hx (hb hby at_371) (pf := 374) (pt := 386) rfl (by decide) (by decide) (fun hc371 => ?_) (fun hc371 => ?_)
          · refine w_lload X22 hx (hb hby at_386) (pc' := 388) rfl rfl ?_
            refine w_lload X22 hx (hb hby at_388) (pc' := 390) rfl rfl ?_
            refine w_callS (argsL := [(.long ee), (.long cc)]) (rest := []) X22 hx hZ hown e22 (rm1 l Z a0 hw ee cc h0 n0 (own_s3p hdd hxx hkk hyy hcc hee).2 (own_s3p hdd hxx hkk hyy hcc hee).1) (hw _ (List.mem_of_getElem? (i := 1) rfl)) (hw _ (List.mem_of_getElem? (i := 2) rfl)) (hw _ (List.mem_of_getElem? (i := 3) rfl)) (hw _ (List.mem_of_getElem? (i := 4) rfl)) (by decide) (by decide) (W := 0) (by decide) (by decide) (by decide) (by rw [hml]; rfl) (lenOf pd_2 rfl) (Nat.le_refl _) rfl (hb hby at_390) (pc' := 393) rfl (fun T23 L23 v23 X23 hQ23 => ?_)
            obtain ⟨rfl, N23q, e23⟩ := hQ23
            have N23 := Fr.app N22 N23q
            have X23 : Stand p l e room_1 s m _ below meth c T23 _ 0 0 := X23
            show Go p e below s room_1.cells room_1.slots (QL (some (.int 1)) n0) T23 (mkF m 393 #[.val (.long x0), .second, .val (.long x1), .second, .val (.long x2), .second, .val (.long x3), .second, .val (.long x4), .second, .val (.int x5), .val (.long v11), .second, .val (.long v12), .second, .val (.int zz), .val (.long gv), .second, .val (.int (1 : Int32)), .val (.long mk), .second, .val (.long uu), .second, .val (.long vv), .second, .val (.long mu), .second, .val (.long mv), .second, .val (.long g2), .second, .val (.long dd), .second, .val (.long xx), .second, .val (.long kk), .second, .val (.long yy), .second, .val (.long cc), .second, .val (.long ee), .second, .unset, .unset] [(.long (own_gcd ee cc))])
            refine w_lstore (Ls' := #[.val (.long x0), .second, .val (.long x1), .second, .val (.long x2), .second, .val (.long x3), .second, .val (.long x4), .second, .val (.int x5), .val (.long v11), .second, .val (.long v12), .second, .val (.int zz), .val (.long gv), .second, .val (.int (1 : Int32)), .val (.long mk), .second, .val (.long uu), .second, .val (.long vv), .second, .val (.long mu), .second, .val (.long mv), .second, .val (.long g2), .second, .val (.long dd), .second, .val (.long xx), .second, .val (.long kk), .second, .val (.long yy), .second, .val (.long cc), .second, .val (.long ee), .second, .val (.long (own_gcd ee cc)), .second]) X23 hx (hb hby at_393) (pc' := 395) rfl rfl ?_
            obtain ⟨hh, hhh⟩ : ∃ z : Int64, z = (own_gcd ee cc) := ⟨_, rfl⟩
            rw [← hhh]
            refine w_iload X23 hx (hb hby at_395) (pc' := 397) rfl rfl ?_
            have hf397 : ¬ ((1 : Int32) = (0 : Int32)) := (by decide)
            refine w_if_eq X23 hx (hb hby at_397) (pf := 400) (pt := 412) rfl (by decide) (by decide) (fun hc => absurd hc hf397) (fun hc397 => ?_)
            refine w_lload X23 hx (hb hby at_400) (pc' := 402) rfl rfl ?_
            refine w_lload X23 hx (hb hby at_402) (pc' := 404) rfl rfl ?_
            refine w_lcmp X23 hx (hb hby at_404) (pc' := 405) rfl ?_
            have hf405 : hh = dd := own_s3d hdd hxx hkk hyy hcc hee (by first | exact Or.inl hhh | exact Or.inr hhh)
            refine w_ifL_ne X23 hx (hb hby at_405) (pf := 408) (pt := 412) rfl (by decide) (by decide) (fun hc => absurd hf405 hc) (fun hc405 => ?_)
            refine w_iconst (v := 1) X23 hx (hb hby at_408) (pc' := 409) rfl rfl ?_
            refine w_goto X23 hx (hb hby at_409) (pc' := 413) (by decide) (by decide) ?_
            refine w_istore (Ls' := #[.val (.long x0), .second, .val (.long x1), .second, .val (.long x2), .second, .val (.long x3), .second, .val (.long x4), .second, .val (.int x5), .val (.long v11), .second, .val (.long v12), .second, .val (.int zz), .val (.long gv), .second, .val (.int (1 : Int32)), .val (.long mk), .second, .val (.long uu), .second, .val (.long vv), .second, .val (.long mu), .second, .val (.long mv), .second, .val (.long g2), .second, .val (.long dd), .second, .val (.long xx), .second, .val (.long kk), .second, .val (.long yy), .second, .val (.long cc), .second, .val (.long ee), .second, .val (.long hh), .second]) X23 hx (hb hby at_413) (pc' := 415) rfl rfl ?_
            refine w_iload X23 hx (hb hby at_415) (pc' := 417) rfl rfl ?_
            exact w_retZ X23 hx hret hlk (hb hby at_417) (by decide) (by decide) ⟨rfl, N23⟩
          · refine w_lload X22 hx (hb hby at_374) (pc' := 376) rfl rfl ?_
            refine w_lload X22 hx (hb hby at_376) (pc' := 378) rfl rfl ?_
            refine w_callS (argsL := [(.long cc), (.long ee)]) (rest := []) X22 hx hZ hown e22 (rm1 l Z a0 hw cc ee h0 n0 (own_s3p hdd hxx hkk hyy hcc hee).1 (own_s3p hdd hxx hkk hyy hcc hee).2) (hw _ (List.mem_of_getElem? (i := 1) rfl)) (hw _ (List.mem_of_getElem? (i := 2) rfl)) (hw _ (List.mem_of_getElem? (i := 3) rfl)) (hw _ (List.mem_of_getElem? (i := 4) rfl)) (by decide) (by decide) (W := 0) (by decide) (by decide) (by decide) (by rw [hml]; rfl) (lenOf pd_2 rfl) (Nat.le_refl _) rfl (hb hby at_378) (pc' := 381) rfl (fun T24 L24 v24 X24 hQ24 => ?_)
            obtain ⟨rfl, N24q, e24⟩ := hQ24
            have N24 := Fr.app N22 N24q
            have X24 : Stand p l e room_1 s m _ below meth c T24 _ 0 0 := X24
            show Go p e below s room_1.cells room_1.slots (QL (some (.int 1)) n0) T24 (mkF m 381 #[.val (.long x0), .second, .val (.long x1), .second, .val (.long x2), .second, .val (.long x3), .second, .val (.long x4), .second, .val (.int x5), .val (.long v11), .second, .val (.long v12), .second, .val (.int zz), .val (.long gv), .second, .val (.int (1 : Int32)), .val (.long mk), .second, .val (.long uu), .second, .val (.long vv), .second, .val (.long mu), .second, .val (.long mv), .second, .val (.long g2), .second, .val (.long dd), .second, .val (.long xx), .second, .val (.long kk), .second, .val (.long yy), .second, .val (.long cc), .second, .val (.long ee), .second, .unset, .unset] [(.long (own_gcd cc ee))])
            refine w_lstore (Ls' := #[.val (.long x0), .second, .val (.long x1), .second, .val (.long x2), .second, .val (.long x3), .second, .val (.long x4), .second, .val (.int x5), .val (.long v11), .second, .val (.long v12), .second, .val (.int zz), .val (.long gv), .second, .val (.int (1 : Int32)), .val (.long mk), .second, .val (.long uu), .second, .val (.long vv), .second, .val (.long mu), .second, .val (.long mv), .second, .val (.long g2), .second, .val (.long dd), .second, .val (.long xx), .second, .val (.long kk), .second, .val (.long yy), .second, .val (.long cc), .second, .val (.long ee), .second, .val (.long (own_gcd cc ee)), .second]) X24 hx (hb hby at_381) (pc' := 383) rfl rfl ?_
            obtain ⟨hh, hhh⟩ : ∃ z : Int64, z = (own_gcd cc ee) := ⟨_, rfl⟩
            rw [← hhh]
            refine w_goto X24 hx (hb hby at_383) (pc' := 395) (by decide) (by decide) ?_
            refine w_iload X24 hx (hb hby at_395) (pc' := 397) rfl rfl ?_
            have hf397 : ¬ ((1 : Int32) = (0 : Int32)) := (by decide)
            refine w_if_eq X24 hx (hb hby at_397) (pf := 400) (pt := 412) rfl (by decide) (by decide) (fun hc => absurd hc hf397) (fun hc397 => ?_)
            refine w_lload X24 hx (hb hby at_400) (pc' := 402) rfl rfl ?_
            refine w_lload X24 hx (hb hby at_402) (pc' := 404) rfl rfl ?_
            refine w_lcmp X24 hx (hb hby at_404) (pc' := 405) rfl ?_
            have hf405 : hh = dd := own_s3d hdd hxx hkk hyy hcc hee (by first | exact Or.inl hhh | exact Or.inr hhh)
            refine w_ifL_ne X24 hx (hb hby at_405) (pf := 408) (pt := 412) rfl (by decide) (by decide) (fun hc => absurd hf405 hc) (fun hc405 => ?_)
            refine w_iconst (v := 1) X24 hx (hb hby at_408) (pc' := 409) rfl rfl ?_
            refine w_goto X24 hx (hb hby at_409) (pc' := 413) (by decide) (by decide) ?_
            refine w_istore (Ls' := #[.val (.long x0), .second, .val (.long x1), .second, .val (.long x2), .second, .val (.long x3), .second, .val (.long x4), .second, .val (.int x5), .val (.long v11), .second, .val (.long v12), .second, .val (.int zz), .val (.long gv), .second, .val (.int (1 : Int32)), .val (.long mk), .second, .val (.long uu), .second, .val (.long vv), .second, .val (.long mu), .second, .val (.long mv), .second, .val (.long g2), .second, .val (.long dd), .second, .val (.long xx), .second, .val (.long kk), .second, .val (.long yy), .second, .val (.long cc), .second, .val (.long ee), .second, .val (.long hh), .second]) X24 hx (hb hby at_413) (pc' := 415) rfl rfl ?_
            refine w_iload X24 hx (hb hby at_415) (pc' := 417) rfl rfl ?_
            exact w_retZ X24 hx hret hlk (hb hby at_417) (by decide) (by decide) ⟨rfl, N24⟩
        · refine w_lload X22 hx (hb hby at_232) (pc' := 234) rfl rfl ?_
          refine w_lconst (v := 0) X22 hx (hb hby at_234) (pc' := 235) rfl rfl ?_
          refine w_lcmp X22 hx (hb hby at_235) (pc' := 236) rfl ?_
          refine w_ifL_ne X22 hx (hb hby at_236) (pf := 239) (pt := 261) rfl (by decide) (by decide) (fun hc236 => ?_) (fun hc236 => ?_)
          · refine w_iload X22 hx (hb hby at_261) (pc' := 263) rfl rfl ?_
            have hf263 : ¬ ((1 : Int32) = (0 : Int32)) := (by decide)
            refine w_if_eq X22 hx (hb hby at_263) (pf := 266) (pt := 307) rfl (by decide) (by decide) (fun hc => absurd hc hf263) (fun hc263 => ?_)
            refine w_lload X22 hx (hb hby at_266) (pc' := 268) rfl rfl ?_
            refine w_lconst (v := 0) X22 hx (hb hby at_268) (pc' := 269) rfl rfl ?_
            refine w_lcmp X22 hx (hb hby at_269) (pc' := 270) rfl ?_
            have hf270 : (0 : Int64) < g2 := (own_gpos (own_s2p hmk huu hvv hmu hmv).1 (own_s2p hmk huu hvv hmu hmv).2.1 (by first | exact Or.inl hc229 | exact Or.inr hc236) hg2).1
            refine w_ifL_le X22 hx (hb hby at_270) (pf := 273) (pt := 307) rfl (by decide) (by decide) (fun hc => absurd hf270 hc) (fun hc270 => ?_)
            refine w_lload X22 hx (hb hby at_273) (pc' := 275) rfl rfl ?_
            refine w_lload X22 hx (hb hby at_275) (pc' := 277) rfl rfl ?_
            refine w_lrem X22 hx (hb hby at_277) (pc' := 278) rfl (own_s2p hmk huu hvv hmu hmv).2.2 ?_
            refine w_lconst (v := 0) X22 hx (hb hby at_278) (pc' := 279) rfl rfl ?_
            refine w_lcmp X22 hx (hb hby at_279) (pc' := 280) rfl ?_
            have hf280 : (g2 % mk) = (0 : Int64) := own_s2d hmk huu hvv hmu hmv hg2
            refine w_ifL_ne X22 hx (hb hby at_280) (pf := 283) (pt := 307) rfl (by decide) (by decide) (fun hc => absurd hf280 hc) (fun hc280 => ?_)
            refine w_lload X22 hx (hb hby at_283) (pc' := 285) rfl rfl ?_
            refine w_lload X22 hx (hb hby at_285) (pc' := 287) rfl rfl ?_
            refine w_lrem X22 hx (hb hby at_287) (pc' := 288) rfl (own_gpos (own_s2p hmk huu hvv hmu hmv).1 (own_s2p hmk huu hvv hmu hmv).2.1 (by first | exact Or.inl hc229 | exact Or.inr hc236) hg2).2.2.2.1 ?_
            refine w_lconst (v := 0) X22 hx (hb hby at_288) (pc' := 289) rfl rfl ?_
            refine w_lcmp X22 hx (hb hby at_289) (pc' := 290) rfl ?_
            have hf290 : (mu % g2) = (0 : Int64) := (own_gpos (own_s2p hmk huu hvv hmu hmv).1 (own_s2p hmk huu hvv hmu hmv).2.1 (by first | exact Or.inl hc229 | exact Or.inr hc236) hg2).2.1
            refine w_ifL_ne X22 hx (hb hby at_290) (pf := 293) (pt := 307) rfl (by decide) (by decide) (fun hc => absurd hf290 hc) (fun hc290 => ?_)
            refine w_lload X22 hx (hb hby at_293) (pc' := 295) rfl rfl ?_
            refine w_lload X22 hx (hb hby at_295) (pc' := 297) rfl rfl ?_
            refine w_lrem X22 hx (hb hby at_297) (pc' := 298) rfl (own_gpos (own_s2p hmk huu hvv hmu hmv).1 (own_s2p hmk huu hvv hmu hmv).2.1 (by first | exact Or.inl hc229 | exact Or.inr hc236) hg2).2.2.2.1 ?_
            refine w_lconst (v := 0) X22 hx (hb hby at_298) (pc' := 299) rfl rfl ?_
            refine w_lcmp X22 hx (hb hby at_299) (pc' := 300) rfl ?_
            have hf300 : (mv % g2) = (0 : Int64) := (own_gpos (own_s2p hmk huu hvv hmu hmv).1 (own_s2p hmk huu hvv hmu hmv).2.1 (by first | exact Or.inl hc229 | exact Or.inr hc236) hg2).2.2.1
            refine w_ifL_ne X22 hx (hb hby at_300) (pf := 303) (pt := 307) rfl (by decide) (by decide) (fun hc => absurd hf300 hc) (fun hc300 => ?_)
            refine w_iconst (v := 1) X22 hx (hb hby at_303) (pc' := 304) rfl rfl ?_
            refine w_goto X22 hx (hb hby at_304) (pc' := 308) (by decide) (by decide) ?_
            refine w_istore (Ls' := #[.val (.long x0), .second, .val (.long x1), .second, .val (.long x2), .second, .val (.long x3), .second, .val (.long x4), .second, .val (.int x5), .val (.long v11), .second, .val (.long v12), .second, .val (.int zz), .val (.long gv), .second, .val (.int (1 : Int32)), .val (.long mk), .second, .val (.long uu), .second, .val (.long vv), .second, .val (.long mu), .second, .val (.long mv), .second, .val (.long g2), .second, .unset, .unset, .unset, .unset, .unset, .unset, .unset, .unset, .unset, .unset, .unset, .unset, .unset, .unset]) X22 hx (hb hby at_308) (pc' := 310) rfl rfl ?_
            refine w_lload X22 hx (hb hby at_310) (pc' := 312) rfl rfl ?_
            refine w_ldc2 X22 hx hZ hown (hw _ (List.mem_of_getElem? (i := 6) rfl)) (hb hby at_312) (pc' := 315) rfl ?_
            refine w_land X22 hx (hb hby at_315) (pc' := 316) rfl ?_
            refine w_lconst (v := 1) X22 hx (hb hby at_316) (pc' := 317) rfl rfl ?_
            refine w_ladd X22 hx (hb hby at_317) (pc' := 318) rfl ?_
            refine w_lstore (Ls' := #[.val (.long x0), .second, .val (.long x1), .second, .val (.long x2), .second, .val (.long x3), .second, .val (.long x4), .second, .val (.int x5), .val (.long v11), .second, .val (.long v12), .second, .val (.int zz), .val (.long gv), .second, .val (.int (1 : Int32)), .val (.long mk), .second, .val (.long uu), .second, .val (.long vv), .second, .val (.long mu), .second, .val (.long mv), .second, .val (.long g2), .second, .val (.long ((x2 &&& (1048575 : Int64)) + (1 : Int64))), .second, .unset, .unset, .unset, .unset, .unset, .unset, .unset, .unset, .unset, .unset, .unset, .unset]) X22 hx (hb hby at_318) (pc' := 320) rfl rfl ?_
            obtain ⟨dd, hdd⟩ : ∃ z : Int64, z = ((x2 &&& (1048575 : Int64)) + (1 : Int64)) := ⟨_, rfl⟩
            rw [← hdd]
            refine w_lload X22 hx (hb hby at_320) (pc' := 322) rfl rfl ?_
            refine w_bipush (v := 20) X22 hx (hb hby at_322) (pc' := 324) rfl rfl ?_
            refine w_lushr X22 hx (hb hby at_324) (pc' := 325) rfl ?_
            refine w_ldc2 X22 hx hZ hown (hw _ (List.mem_of_getElem? (i := 6) rfl)) (hb hby at_325) (pc' := 328) rfl ?_
            refine w_land X22 hx (hb hby at_328) (pc' := 329) rfl ?_
            refine w_lconst (v := 1) X22 hx (hb hby at_329) (pc' := 330) rfl rfl ?_
            refine w_ladd X22 hx (hb hby at_330) (pc' := 331) rfl ?_
            refine w_lstore (Ls' := #[.val (.long x0), .second, .val (.long x1), .second, .val (.long x2), .second, .val (.long x3), .second, .val (.long x4), .second, .val (.int x5), .val (.long v11), .second, .val (.long v12), .second, .val (.int zz), .val (.long gv), .second, .val (.int (1 : Int32)), .val (.long mk), .second, .val (.long uu), .second, .val (.long vv), .second, .val (.long mu), .second, .val (.long mv), .second, .val (.long g2), .second, .val (.long dd), .second, .val (.long (((jlushr x2 (20 : Int32)) &&& (1048575 : Int64)) + (1 : Int64))), .second, .unset, .unset, .unset, .unset, .unset, .unset, .unset, .unset, .unset, .unset]) X22 hx (hb hby at_331) (pc' := 333) rfl rfl ?_
            obtain ⟨xx, hxx⟩ : ∃ z : Int64, z = (((jlushr x2 (20 : Int32)) &&& (1048575 : Int64)) + (1 : Int64)) := ⟨_, rfl⟩
            rw [← hxx]
            refine w_lload X22 hx (hb hby at_333) (pc' := 335) rfl rfl ?_
            refine w_bipush (v := 40) X22 hx (hb hby at_335) (pc' := 337) rfl rfl ?_
            refine w_lushr X22 hx (hb hby at_337) (pc' := 338) rfl ?_
            refine w_ldc2 X22 hx hZ hown (hw _ (List.mem_of_getElem? (i := 6) rfl)) (hb hby at_338) (pc' := 341) rfl ?_
            refine w_land X22 hx (hb hby at_341) (pc' := 342) rfl ?_
            refine w_lstore (Ls' := #[.val (.long x0), .second, .val (.long x1), .second, .val (.long x2), .second, .val (.long x3), .second, .val (.long x4), .second, .val (.int x5), .val (.long v11), .second, .val (.long v12), .second, .val (.int zz), .val (.long gv), .second, .val (.int (1 : Int32)), .val (.long mk), .second, .val (.long uu), .second, .val (.long vv), .second, .val (.long mu), .second, .val (.long mv), .second, .val (.long g2), .second, .val (.long dd), .second, .val (.long xx), .second, .val (.long ((jlushr x2 (40 : Int32)) &&& (1048575 : Int64))), .second, .unset, .unset, .unset, .unset, .unset, .unset, .unset, .unset]) X22 hx (hb hby at_342) (pc' := 344) rfl rfl ?_
            obtain ⟨kk, hkk⟩ : ∃ z : Int64, z = ((jlushr x2 (40 : Int32)) &&& (1048575 : Int64)) := ⟨_, rfl⟩
            rw [← hkk]
            refine w_lload X22 hx (hb hby at_344) (pc' := 346) rfl rfl ?_
            refine w_lload X22 hx (hb hby at_346) (pc' := 348) rfl rfl ?_
            refine w_lmul X22 hx (hb hby at_348) (pc' := 349) rfl ?_
            refine w_lconst (v := 1) X22 hx (hb hby at_349) (pc' := 350) rfl rfl ?_
            refine w_ladd X22 hx (hb hby at_350) (pc' := 351) rfl ?_
            refine w_lstore (Ls' := #[.val (.long x0), .second, .val (.long x1), .second, .val (.long x2), .second, .val (.long x3), .second, .val (.long x4), .second, .val (.int x5), .val (.long v11), .second, .val (.long v12), .second, .val (.int zz), .val (.long gv), .second, .val (.int (1 : Int32)), .val (.long mk), .second, .val (.long uu), .second, .val (.long vv), .second, .val (.long mu), .second, .val (.long mv), .second, .val (.long g2), .second, .val (.long dd), .second, .val (.long xx), .second, .val (.long kk), .second, .val (.long ((kk * xx) + (1 : Int64))), .second, .unset, .unset, .unset, .unset, .unset, .unset]) X22 hx (hb hby at_351) (pc' := 353) rfl rfl ?_
            obtain ⟨yy, hyy⟩ : ∃ z : Int64, z = ((kk * xx) + (1 : Int64)) := ⟨_, rfl⟩
            rw [← hyy]
            refine w_lload X22 hx (hb hby at_353) (pc' := 355) rfl rfl ?_
            refine w_lload X22 hx (hb hby at_355) (pc' := 357) rfl rfl ?_
            refine w_lmul X22 hx (hb hby at_357) (pc' := 358) rfl ?_
            refine w_lstore (Ls' := #[.val (.long x0), .second, .val (.long x1), .second, .val (.long x2), .second, .val (.long x3), .second, .val (.long x4), .second, .val (.int x5), .val (.long v11), .second, .val (.long v12), .second, .val (.int zz), .val (.long gv), .second, .val (.int (1 : Int32)), .val (.long mk), .second, .val (.long uu), .second, .val (.long vv), .second, .val (.long mu), .second, .val (.long mv), .second, .val (.long g2), .second, .val (.long dd), .second, .val (.long xx), .second, .val (.long kk), .second, .val (.long yy), .second, .val (.long (dd * xx)), .second, .unset, .unset, .unset, .unset]) X22 hx (hb hby at_358) (pc' := 360) rfl rfl ?_
            obtain ⟨cc, hcc⟩ : ∃ z : Int64, z = (dd * xx) := ⟨_, rfl⟩
            rw [← hcc]
            refine w_lload X22 hx (hb hby at_360) (pc' := 362) rfl rfl ?_
            refine w_lload X22 hx (hb hby at_362) (pc' := 364) rfl rfl ?_
            refine w_lmul X22 hx (hb hby at_364) (pc' := 365) rfl ?_
            refine w_lstore (Ls' := #[.val (.long x0), .second, .val (.long x1), .second, .val (.long x2), .second, .val (.long x3), .second, .val (.long x4), .second, .val (.int x5), .val (.long v11), .second, .val (.long v12), .second, .val (.int zz), .val (.long gv), .second, .val (.int (1 : Int32)), .val (.long mk), .second, .val (.long uu), .second, .val (.long vv), .second, .val (.long mu), .second, .val (.long mv), .second, .val (.long g2), .second, .val (.long dd), .second, .val (.long xx), .second, .val (.long kk), .second, .val (.long yy), .second, .val (.long cc), .second, .val (.long (dd * yy)), .second, .unset, .unset]) X22 hx (hb hby at_365) (pc' := 367) rfl rfl ?_
            obtain ⟨ee, hee⟩ : ∃ z : Int64, z = (dd * yy) := ⟨_, rfl⟩
            rw [← hee]
            refine w_iload X22 hx (hb hby at_367) (pc' := 369) rfl rfl ?_
            refine w_iconst (v := 4) X22 hx (hb hby at_369) (pc' := 370) rfl rfl ?_
            refine w_iand X22 hx (hb hby at_370) (pc' := 371) rfl ?_
            refine w_if_eq X22 hx (hb hby at_371) (pf := 374) (pt := 386) rfl (by decide) (by decide) (fun hc371 => ?_) (fun hc371 => ?_)
            · refine w_lload X22 hx (hb hby at_386) (pc' := 388) rfl rfl ?_
              refine w_lload X22 hx (hb hby at_388) (pc' := 390) rfl rfl ?_
              refine w_callS (argsL := [(.long ee), (.long cc)]) (rest := []) X22 hx hZ hown e22 (rm1 l Z a0 hw ee cc h0 n0 (own_s3p hdd hxx hkk hyy hcc hee).2 (own_s3p hdd hxx hkk hyy hcc hee).1) (hw _ (List.mem_of_getElem? (i := 1) rfl)) (hw _ (List.mem_of_getElem? (i := 2) rfl)) (hw _ (List.mem_of_getElem? (i := 3) rfl)) (hw _ (List.mem_of_getElem? (i := 4) rfl)) (by decide) (by decide) (W := 0) (by decide) (by decide) (by decide) (by rw [hml]; rfl) (lenOf pd_2 rfl) (Nat.le_refl _) rfl (hb hby at_390) (pc' := 393) rfl (fun T25 L25 v25 X25 hQ25 => ?_)
              obtain ⟨rfl, N25q, e25⟩ := hQ25
              have N25 := Fr.app N22 N25q
              have X25 : Stand p l e room_1 s m _ below meth c T25 _ 0 0 := X25
              show Go p e below s room_1.cells room_1.slots (QL (some (.int 1)) n0) T25 (mkF m 393 #[.val (.long x0), .second, .val (.long x1), .second, .val (.long x2), .second, .val (.long x3), .second, .val (.long x4), .second, .val (.int x5), .val (.long v11), .second, .val (.long v12), .second, .val (.int zz), .val (.long gv), .second, .val (.int (1 : Int32)), .val (.long mk), .second, .val (.long uu), .second, .val (.long vv), .second, .val (.long mu), .second, .val (.long mv), .second, .val (.long g2), .second, .val (.long dd), .second, .val (.long xx), .second, .val (.long kk), .second, .val (.long yy), .second, .val (.long cc), .second, .val (.long ee), .second, .unset, .unset] [(.long (own_gcd ee cc))])
              refine w_lstore (Ls' := #[.val (.long x0), .second, .val (.long x1), .second, .val (.long x2), .second, .val (.long x3), .second, .val (.long x4), .second, .val (.int x5), .val (.long v11), .second, .val (.long v12), .second, .val (.int zz), .val (.long gv), .second, .val (.int (1 : Int32)), .val (.long mk), .second, .val (.long uu), .second, .val (.long vv), .second, .val (.long mu), .second, .val (.long mv), .second, .val (.long g2), .second, .val (.long dd), .second, .val (.long xx), .second, .val (.long kk), .second, .val (.long yy), .second, .val (.long cc), .second, .val (.long ee), .second, .val (.long (own_gcd ee cc)), .second]) X25 hx (hb hby at_393) (pc' := 395) rfl rfl ?_
              obtain ⟨hh, hhh⟩ : ∃ z : Int64, z = (own_gcd ee cc) := ⟨_, rfl⟩
              rw [← hhh]
              refine w_iload X25 hx (hb hby at_395) (pc' := 397) rfl rfl ?_
              have hf397 : ¬ ((1 : Int32) = (0 : Int32)) := (by decide)
              refine w_if_eq X25 hx (hb hby at_397) (pf := 400) (pt := 412) rfl (by decide) (by decide) (fun hc => absurd hc hf397) (fun hc397 => ?_)
              refine w_lload X25 hx (hb hby at_400) (pc' := 402) rfl rfl ?_
              refine w_lload X25 hx (hb hby at_402) (pc' := 404) rfl rfl ?_
              refine w_lcmp X25 hx (hb hby at_404) (pc' := 405) rfl ?_
              have hf405 : hh = dd := own_s3d hdd hxx hkk hyy hcc hee (by first | exact Or.inl hhh | exact Or.inr hhh)
              refine w_ifL_ne X25 hx (hb hby at_405) (pf := 408) (pt := 412) rfl (by decide) (by decide) (fun hc => absurd hf405 hc) (fun hc405 => ?_)
              refine w_iconst (v := 1) X25 hx (hb hby at_408) (pc' := 409) rfl rfl ?_
              refine w_goto X25 hx (hb hby at_409) (pc' := 413) (by decide) (by decide) ?_
              refine w_istore (Ls' := #[.val (.long x0), .second, .val (.long x1), .second, .val (.long x2), .second, .val (.long x3), .second, .val (.long x4), .second, .val (.int x5), .val (.long v11), .second, .val (.long v12), .second, .val (.int zz), .val (.long gv), .second, .val (.int (1 : Int32)), .val (.long mk), .second, .val (.long uu), .second, .val (.long vv), .second, .val (.long mu), .second, .val (.long mv), .second, .val (.long g2), .second, .val (.long dd), .second, .val (.long xx), .second, .val (.long kk), .second, .val (.long yy), .second, .val (.long cc), .second, .val (.long ee), .second, .val (.long hh), .second]) X25 hx (hb hby at_413) (pc' := 415) rfl rfl ?_
              refine w_iload X25 hx (hb hby at_415) (pc' := 417) rfl rfl ?_
              exact w_retZ X25 hx hret hlk (hb hby at_417) (by decide) (by decide) ⟨rfl, N25⟩
            · refine w_lload X22 hx (hb hby at_374) (pc' := 376) rfl rfl ?_
              refine w_lload X22 hx (hb hby at_376) (pc' := 378) rfl rfl ?_
              refine w_callS (argsL := [(.long cc), (.long ee)]) (rest := []) X22 hx hZ hown e22 (rm1 l Z a0 hw cc ee h0 n0 (own_s3p hdd hxx hkk hyy hcc hee).1 (own_s3p hdd hxx hkk hyy hcc hee).2) (hw _ (List.mem_of_getElem? (i := 1) rfl)) (hw _ (List.mem_of_getElem? (i := 2) rfl)) (hw _ (List.mem_of_getElem? (i := 3) rfl)) (hw _ (List.mem_of_getElem? (i := 4) rfl)) (by decide) (by decide) (W := 0) (by decide) (by decide) (by decide) (by rw [hml]; rfl) (lenOf pd_2 rfl) (Nat.le_refl _) rfl (hb hby at_378) (pc' := 381) rfl (fun T26 L26 v26 X26 hQ26 => ?_)
              obtain ⟨rfl, N26q, e26⟩ := hQ26
              have N26 := Fr.app N22 N26q
              have X26 : Stand p l e room_1 s m _ below meth c T26 _ 0 0 := X26
              show Go p e below s room_1.cells room_1.slots (QL (some (.int 1)) n0) T26 (mkF m 381 #[.val (.long x0), .second, .val (.long x1), .second, .val (.long x2), .second, .val (.long x3), .second, .val (.long x4), .second, .val (.int x5), .val (.long v11), .second, .val (.long v12), .second, .val (.int zz), .val (.long gv), .second, .val (.int (1 : Int32)), .val (.long mk), .second, .val (.long uu), .second, .val (.long vv), .second, .val (.long mu), .second, .val (.long mv), .second, .val (.long g2), .second, .val (.long dd), .second, .val (.long xx), .second, .val (.long kk), .second, .val (.long yy), .second, .val (.long cc), .second, .val (.long ee), .second, .unset, .unset] [(.long (own_gcd cc ee))])
              refine w_lstore (Ls' := #[.val (.long x0), .second, .val (.long x1), .second, .val (.long x2), .second, .val (.long x3), .second, .val (.long x4), .second, .val (.int x5), .val (.long v11), .second, .val (.long v12), .second, .val (.int zz), .val (.long gv), .second, .val (.int (1 : Int32)), .val (.long mk), .second, .val (.long uu), .second, .val (.long vv), .second, .val (.long mu), .second, .val (.long mv), .second, .val (.long g2), .second, .val (.long dd), .second, .val (.long xx), .second, .val (.long kk), .second, .val (.long yy), .second, .val (.long cc), .second, .val (.long ee), .second, .val (.long (own_gcd cc ee)), .second]) X26 hx (hb hby at_381) (pc' := 383) rfl rfl ?_
              obtain ⟨hh, hhh⟩ : ∃ z : Int64, z = (own_gcd cc ee) := ⟨_, rfl⟩
              rw [← hhh]
              refine w_goto X26 hx (hb hby at_383) (pc' := 395) (by decide) (by decide) ?_
              refine w_iload X26 hx (hb hby at_395) (pc' := 397) rfl rfl ?_
              have hf397 : ¬ ((1 : Int32) = (0 : Int32)) := (by decide)
              refine w_if_eq X26 hx (hb hby at_397) (pf := 400) (pt := 412) rfl (by decide) (by decide) (fun hc => absurd hc hf397) (fun hc397 => ?_)
              refine w_lload X26 hx (hb hby at_400) (pc' := 402) rfl rfl ?_
              refine w_lload X26 hx (hb hby at_402) (pc' := 404) rfl rfl ?_
              refine w_lcmp X26 hx (hb hby at_404) (pc' := 405) rfl ?_
              have hf405 : hh = dd := own_s3d hdd hxx hkk hyy hcc hee (by first | exact Or.inl hhh | exact Or.inr hhh)
              refine w_ifL_ne X26 hx (hb hby at_405) (pf := 408) (pt := 412) rfl (by decide) (by decide) (fun hc => absurd hf405 hc) (fun hc405 => ?_)
              refine w_iconst (v := 1) X26 hx (hb hby at_408) (pc' := 409) rfl rfl ?_
              refine w_goto X26 hx (hb hby at_409) (pc' := 413) (by decide) (by decide) ?_
              refine w_istore (Ls' := #[.val (.long x0), .second, .val (.long x1), .second, .val (.long x2), .second, .val (.long x3), .second, .val (.long x4), .second, .val (.int x5), .val (.long v11), .second, .val (.long v12), .second, .val (.int zz), .val (.long gv), .second, .val (.int (1 : Int32)), .val (.long mk), .second, .val (.long uu), .second, .val (.long vv), .second, .val (.long mu), .second, .val (.long mv), .second, .val (.long g2), .second, .val (.long dd), .second, .val (.long xx), .second, .val (.long kk), .second, .val (.long yy), .second, .val (.long cc), .second, .val (.long ee), .second, .val (.long hh), .second]) X26 hx (hb hby at_413) (pc' := 415) rfl rfl ?_
              refine w_iload X26 hx (hb hby at_415) (pc' := 417) rfl rfl ?_
              exact w_retZ X26 hx hret hlk (hb hby at_417) (by decide) (by decide) ⟨rfl, N26⟩
          · refine w_iload X22 hx (hb hby at_239) (pc' := 241) rfl rfl ?_
            have hf241 : ¬ ((1 : Int32) = (0 : Int32)) := (by decide)
            refine w_if_eq X22 hx (hb hby at_241) (pf := 244) (pt := 255) rfl (by decide) (by decide) (fun hc => absurd hc hf241) (fun hc241 => ?_)
            refine w_lload X22 hx (hb hby at_244) (pc' := 246) rfl rfl ?_
            refine w_lconst (v := 0) X22 hx (hb hby at_246) (pc' := 247) rfl rfl ?_
            refine w_lcmp X22 hx (hb hby at_247) (pc' := 248) rfl ?_
            have hf248 : g2 = (0 : Int64) := (own_a0 (own_s2p hmk huu hvv hmu hmv).2.1 hc229 hg2).trans hc236
            refine w_ifL_ne X22 hx (hb hby at_248) (pf := 251) (pt := 255) rfl (by decide) (by decide) (fun hc => absurd hf248 hc) (fun hc248 => ?_)
            refine w_iconst (v := 1) X22 hx (hb hby at_251) (pc' := 252) rfl rfl ?_
            refine w_goto X22 hx (hb hby at_252) (pc' := 256) (by decide) (by decide) ?_
            refine w_istore (Ls' := #[.val (.long x0), .second, .val (.long x1), .second, .val (.long x2), .second, .val (.long x3), .second, .val (.long x4), .second, .val (.int x5), .val (.long v11), .second, .val (.long v12), .second, .val (.int zz), .val (.long gv), .second, .val (.int (1 : Int32)), .val (.long mk), .second, .val (.long uu), .second, .val (.long vv), .second, .val (.long mu), .second, .val (.long mv), .second, .val (.long g2), .second, .unset, .unset, .unset, .unset, .unset, .unset, .unset, .unset, .unset, .unset, .unset, .unset, .unset, .unset]) X22 hx (hb hby at_256) (pc' := 258) rfl rfl ?_
            refine w_goto X22 hx (hb hby at_258) (pc' := 310) (by decide) (by decide) ?_
            refine w_lload X22 hx (hb hby at_310) (pc' := 312) rfl rfl ?_
            refine w_ldc2 X22 hx hZ hown (hw _ (List.mem_of_getElem? (i := 6) rfl)) (hb hby at_312) (pc' := 315) rfl ?_
            refine w_land X22 hx (hb hby at_315) (pc' := 316) rfl ?_
            refine w_lconst (v := 1) X22 hx (hb hby at_316) (pc' := 317) rfl rfl ?_
            refine w_ladd X22 hx (hb hby at_317) (pc' := 318) rfl ?_
            refine w_lstore (Ls' := #[.val (.long x0), .second, .val (.long x1), .second, .val (.long x2), .second, .val (.long x3), .second, .val (.long x4), .second, .val (.int x5), .val (.long v11), .second, .val (.long v12), .second, .val (.int zz), .val (.long gv), .second, .val (.int (1 : Int32)), .val (.long mk), .second, .val (.long uu), .second, .val (.long vv), .second, .val (.long mu), .second, .val (.long mv), .second, .val (.long g2), .second, .val (.long ((x2 &&& (1048575 : Int64)) + (1 : Int64))), .second, .unset, .unset, .unset, .unset, .unset, .unset, .unset, .unset, .unset, .unset, .unset, .unset]) X22 hx (hb hby at_318) (pc' := 320) rfl rfl ?_
            obtain ⟨dd, hdd⟩ : ∃ z : Int64, z = ((x2 &&& (1048575 : Int64)) + (1 : Int64)) := ⟨_, rfl⟩
            rw [← hdd]
            refine w_lload X22 hx (hb hby at_320) (pc' := 322) rfl rfl ?_
            refine w_bipush (v := 20) X22 hx (hb hby at_322) (pc' := 324) rfl rfl ?_
            refine w_lushr X22 hx (hb hby at_324) (pc' := 325) rfl ?_
            refine w_ldc2 X22 hx hZ hown (hw _ (List.mem_of_getElem? (i := 6) rfl)) (hb hby at_325) (pc' := 328) rfl ?_
            refine w_land X22 hx (hb hby at_328) (pc' := 329) rfl ?_
            refine w_lconst (v := 1) X22 hx (hb hby at_329) (pc' := 330) rfl rfl ?_
            refine w_ladd X22 hx (hb hby at_330) (pc' := 331) rfl ?_
            refine w_lstore (Ls' := #[.val (.long x0), .second, .val (.long x1), .second, .val (.long x2), .second, .val (.long x3), .second, .val (.long x4), .second, .val (.int x5), .val (.long v11), .second, .val (.long v12), .second, .val (.int zz), .val (.long gv), .second, .val (.int (1 : Int32)), .val (.long mk), .second, .val (.long uu), .second, .val (.long vv), .second, .val (.long mu), .second, .val (.long mv), .second, .val (.long g2), .second, .val (.long dd), .second, .val (.long (((jlushr x2 (20 : Int32)) &&& (1048575 : Int64)) + (1 : Int64))), .second, .unset, .unset, .unset, .unset, .unset, .unset, .unset, .unset, .unset, .unset]) X22 hx (hb hby at_331) (pc' := 333) rfl rfl ?_
            obtain ⟨xx, hxx⟩ : ∃ z : Int64, z = (((jlushr x2 (20 : Int32)) &&& (1048575 : Int64)) + (1 : Int64)) := ⟨_, rfl⟩
            rw [← hxx]
            refine w_lload X22 hx (hb hby at_333) (pc' := 335) rfl rfl ?_
            refine w_bipush (v := 40) X22 hx (hb hby at_335) (pc' := 337) rfl rfl ?_
            refine w_lushr X22 hx (hb hby at_337) (pc' := 338) rfl ?_
            refine w_ldc2 X22 hx hZ hown (hw _ (List.mem_of_getElem? (i := 6) rfl)) (hb hby at_338) (pc' := 341) rfl ?_
            refine w_land X22 hx (hb hby at_341) (pc' := 342) rfl ?_
            refine w_lstore (Ls' := #[.val (.long x0), .second, .val (.long x1), .second, .val (.long x2), .second, .val (.long x3), .second, .val (.long x4), .second, .val (.int x5), .val (.long v11), .second, .val (.long v12), .second, .val (.int zz), .val (.long gv), .second, .val (.int (1 : Int32)), .val (.long mk), .second, .val (.long uu), .second, .val (.long vv), .second, .val (.long mu), .second, .val (.long mv), .second, .val (.long g2), .second, .val (.long dd), .second, .val (.long xx), .second, .val (.long ((jlushr x2 (40 : Int32)) &&& (1048575 : Int64))), .second, .unset, .unset, .unset, .unset, .unset, .unset, .unset, .unset]) X22 hx (hb hby at_342) (pc' := 344) rfl rfl ?_
            obtain ⟨kk, hkk⟩ : ∃ z : Int64, z = ((jlushr x2 (40 : Int32)) &&& (1048575 : Int64)) := ⟨_, rfl⟩
            rw [← hkk]
            refine w_lload X22 hx (hb hby at_344) (pc' := 346) rfl rfl ?_
            refine w_lload X22 hx (hb hby at_346) (pc' := 348) rfl rfl ?_
            refine w_lmul X22 hx (hb hby at_348) (pc' := 349) rfl ?_
            refine w_lconst (v := 1) X22 hx (hb hby at_349) (pc' := 350) rfl rfl ?_
            refine w_ladd X22 hx (hb hby at_350) (pc' := 351) rfl ?_
            refine w_lstore (Ls' := #[.val (.long x0), .second, .val (.long x1), .second, .val (.long x2), .second, .val (.long x3), .second, .val (.long x4), .second, .val (.int x5), .val (.long v11), .second, .val (.long v12), .second, .val (.int zz), .val (.long gv), .second, .val (.int (1 : Int32)), .val (.long mk), .second, .val (.long uu), .second, .val (.long vv), .second, .val (.long mu), .second, .val (.long mv), .second, .val (.long g2), .second, .val (.long dd), .second, .val (.long xx), .second, .val (.long kk), .second, .val (.long ((kk * xx) + (1 : Int64))), .second, .unset, .unset, .unset, .unset, .unset, .unset]) X22 hx (hb hby at_351) (pc' := 353) rfl rfl ?_
            obtain ⟨yy, hyy⟩ : ∃ z : Int64, z = ((kk * xx) + (1 : Int64)) := ⟨_, rfl⟩
            rw [← hyy]
            refine w_lload X22 hx (hb hby at_353) (pc' := 355) rfl rfl ?_
            refine w_lload X22 hx (hb hby at_355) (pc' := 357) rfl rfl ?_
            refine w_lmul X22 hx (hb hby at_357) (pc' := 358) rfl ?_
            refine w_lstore (Ls' := #[.val (.long x0), .second, .val (.long x1), .second, .val (.long x2), .second, .val (.long x3), .second, .val (.long x4), .second, .val (.int x5), .val (.long v11), .second, .val (.long v12), .second, .val (.int zz), .val (.long gv), .second, .val (.int (1 : Int32)), .val (.long mk), .second, .val (.long uu), .second, .val (.long vv), .second, .val (.long mu), .second, .val (.long mv), .second, .val (.long g2), .second, .val (.long dd), .second, .val (.long xx), .second, .val (.long kk), .second, .val (.long yy), .second, .val (.long (dd * xx)), .second, .unset, .unset, .unset, .unset]) X22 hx (hb hby at_358) (pc' := 360) rfl rfl ?_
            obtain ⟨cc, hcc⟩ : ∃ z : Int64, z = (dd * xx) := ⟨_, rfl⟩
            rw [← hcc]
            refine w_lload X22 hx (hb hby at_360) (pc' := 362) rfl rfl ?_
            refine w_lload X22 hx (hb hby at_362) (pc' := 364) rfl rfl ?_
            refine w_lmul X22 hx (hb hby at_364) (pc' := 365) rfl ?_
            refine w_lstore (Ls' := #[.val (.long x0), .second, .val (.long x1), .second, .val (.long x2), .second, .val (.long x3), .second, .val (.long x4), .second, .val (.int x5), .val (.long v11), .second, .val (.long v12), .second, .val (.int zz), .val (.long gv), .second, .val (.int (1 : Int32)), .val (.long mk), .second, .val (.long uu), .second, .val (.long vv), .second, .val (.long mu), .second, .val (.long mv), .second, .val (.long g2), .second, .val (.long dd), .second, .val (.long xx), .second, .val (.long kk), .second, .val (.long yy), .second, .val (.long cc), .second, .val (.long (dd * yy)), .second, .unset, .unset]) X22 hx (hb hby at_365) (pc' := 367) rfl rfl ?_
            obtain ⟨ee, hee⟩ : ∃ z : Int64, z = (dd * yy) := ⟨_, rfl⟩
            rw [← hee]
            refine w_iload X22 hx (hb hby at_367) (pc' := 369) rfl rfl ?_
            refine w_iconst (v := 4) X22 hx (hb hby at_369) (pc' := 370) rfl rfl ?_
            refine w_iand X22 hx (hb hby at_370) (pc' := 371) rfl ?_
            refine w_if_eq X22 hx (hb hby at_371) (pf := 374) (pt := 386) rfl (by decide) (by decide) (fun hc371 => ?_) (fun hc371 => ?_)
            · refine w_lload X22 hx (hb hby at_386) (pc' := 388) rfl rfl ?_
              refine w_lload X22 hx (hb hby at_388) (pc' := 390) rfl rfl ?_
              refine w_callS (argsL := [(.long ee), (.long cc)]) (rest := []) X22 hx hZ hown e22 (rm1 l Z a0 hw ee cc h0 n0 (own_s3p hdd hxx hkk hyy hcc hee).2 (own_s3p hdd hxx hkk hyy hcc hee).1) (hw _ (List.mem_of_getElem? (i := 1) rfl)) (hw _ (List.mem_of_getElem? (i := 2) rfl)) (hw _ (List.mem_of_getElem? (i := 3) rfl)) (hw _ (List.mem_of_getElem? (i := 4) rfl)) (by decide) (by decide) (W := 0) (by decide) (by decide) (by decide) (by rw [hml]; rfl) (lenOf pd_2 rfl) (Nat.le_refl _) rfl (hb hby at_390) (pc' := 393) rfl (fun T27 L27 v27 X27 hQ27 => ?_)
              obtain ⟨rfl, N27q, e27⟩ := hQ27
              have N27 := Fr.app N22 N27q
              have X27 : Stand p l e room_1 s m _ below meth c T27 _ 0 0 := X27
              show Go p e below s room_1.cells room_1.slots (QL (some (.int 1)) n0) T27 (mkF m 393 #[.val (.long x0), .second, .val (.long x1), .second, .val (.long x2), .second, .val (.long x3), .second, .val (.long x4), .second, .val (.int x5), .val (.long v11), .second, .val (.long v12), .second, .val (.int zz), .val (.long gv), .second, .val (.int (1 : Int32)), .val (.long mk), .second, .val (.long uu), .second, .val (.long vv), .second, .val (.long mu), .second, .val (.long mv), .second, .val (.long g2), .second, .val (.long dd), .second, .val (.long xx), .second, .val (.long kk), .second, .val (.long yy), .second, .val (.long cc), .second, .val (.long ee), .second, .unset, .unset] [(.long (own_gcd ee cc))])
              refine w_lstore (Ls' := #[.val (.long x0), .second, .val (.long x1), .second, .val (.long x2), .second, .val (.long x3), .second, .val (.long x4), .second, .val (.int x5), .val (.long v11), .second, .val (.long v12), .second, .val (.int zz), .val (.long gv), .second, .val (.int (1 : Int32)), .val (.long mk), .second, .val (.long uu), .second, .val (.long vv), .second, .val (.long mu), .second, .val (.long mv), .second, .val (.long g2), .second, .val (.long dd), .second, .val (.long xx), .second, .val (.long kk), .second, .val (.long yy), .second, .val (.long cc), .second, .val (.long ee), .second, .val (.long (own_gcd ee cc)), .second]) X27 hx (hb hby at_393) (pc' := 395) rfl rfl ?_
              obtain ⟨hh, hhh⟩ : ∃ z : Int64, z = (own_gcd ee cc) := ⟨_, rfl⟩
              rw [← hhh]
              refine w_iload X27 hx (hb hby at_395) (pc' := 397) rfl rfl ?_
              have hf397 : ¬ ((1 : Int32) = (0 : Int32)) := (by decide)
              refine w_if_eq X27 hx (hb hby at_397) (pf := 400) (pt := 412) rfl (by decide) (by decide) (fun hc => absurd hc hf397) (fun hc397 => ?_)
              refine w_lload X27 hx (hb hby at_400) (pc' := 402) rfl rfl ?_
              refine w_lload X27 hx (hb hby at_402) (pc' := 404) rfl rfl ?_
              refine w_lcmp X27 hx (hb hby at_404) (pc' := 405) rfl ?_
              have hf405 : hh = dd := own_s3d hdd hxx hkk hyy hcc hee (by first | exact Or.inl hhh | exact Or.inr hhh)
              refine w_ifL_ne X27 hx (hb hby at_405) (pf := 408) (pt := 412) rfl (by decide) (by decide) (fun hc => absurd hf405 hc) (fun hc405 => ?_)
              refine w_iconst (v := 1) X27 hx (hb hby at_408) (pc' := 409) rfl rfl ?_
              refine w_goto X27 hx (hb hby at_409) (pc' := 413) (by decide) (by decide) ?_
              refine w_istore (Ls' := #[.val (.long x0), .second, .val (.long x1), .second, .val (.long x2), .second, .val (.long x3), .second, .val (.long x4), .second, .val (.int x5), .val (.long v11), .second, .val (.long v12), .second, .val (.int zz), .val (.long gv), .second, .val (.int (1 : Int32)), .val (.long mk), .second, .val (.long uu), .second, .val (.long vv), .second, .val (.long mu), .second, .val (.long mv), .second, .val (.long g2), .second, .val (.long dd), .second, .val (.long xx), .second, .val (.long kk), .second, .val (.long yy), .second, .val (.long cc), .second, .val (.long ee), .second, .val (.long hh), .second]) X27 hx (hb hby at_413) (pc' := 415) rfl rfl ?_
              refine w_iload X27 hx (hb hby at_415) (pc' := 417) rfl rfl ?_
              exact w_retZ X27 hx hret hlk (hb hby at_417) (by decide) (by decide) ⟨rfl, N27⟩
            · refine w_lload X22 hx (hb hby at_374) (pc' := 376) rfl rfl ?_
              refine w_lload X22 hx (hb hby at_376) (pc' := 378) rfl rfl ?_
              refine w_callS (argsL := [(.long cc), (.long ee)]) (rest := []) X22 hx hZ hown e22 (rm1 l Z a0 hw cc ee h0 n0 (own_s3p hdd hxx hkk hyy hcc hee).1 (own_s3p hdd hxx hkk hyy hcc hee).2) (hw _ (List.mem_of_getElem? (i := 1) rfl)) (hw _ (List.mem_of_getElem? (i := 2) rfl)) (hw _ (List.mem_of_getElem? (i := 3) rfl)) (hw _ (List.mem_of_getElem? (i := 4) rfl)) (by decide) (by decide) (W := 0) (by decide) (by decide) (by decide) (by rw [hml]; rfl) (lenOf pd_2 rfl) (Nat.le_refl _) rfl (hb hby at_378) (pc' := 381) rfl (fun T28 L28 v28 X28 hQ28 => ?_)
              obtain ⟨rfl, N28q, e28⟩ := hQ28
              have N28 := Fr.app N22 N28q
              have X28 : Stand p l e room_1 s m _ below meth c T28 _ 0 0 := X28
              show Go p e below s room_1.cells room_1.slots (QL (some (.int 1)) n0) T28 (mkF m 381 #[.val (.long x0), .second, .val (.long x1), .second, .val (.long x2), .second, .val (.long x3), .second, .val (.long x4), .second, .val (.int x5), .val (.long v11), .second, .val (.long v12), .second, .val (.int zz), .val (.long gv), .second, .val (.int (1 : Int32)), .val (.long mk), .second, .val (.long uu), .second, .val (.long vv), .second, .val (.long mu), .second, .val (.long mv), .second, .val (.long g2), .second, .val (.long dd), .second, .val (.long xx), .second, .val (.long kk), .second, .val (.long yy), .second, .val (.long cc), .second, .val (.long ee), .second, .unset, .unset] [(.long (own_gcd cc ee))])
              refine w_lstore (Ls' := #[.val (.long x0), .second, .val (.long x1), .second, .val (.long x2), .second, .val (.long x3), .second, .val (.long x4), .second, .val (.int x5), .val (.long v11), .second, .val (.long v12), .second, .val (.int zz), .val (.long gv), .second, .val (.int (1 : Int32)), .val (.long mk), .second, .val (.long uu), .second, .val (.long vv), .second, .val (.long mu), .second, .val (.long mv), .second, .val (.long g2), .second, .val (.long dd), .second, .val (.long xx), .second, .val (.long kk), .second, .val (.long yy), .second, .val (.long cc), .second, .val (.long ee), .second, .val (.long (own_gcd cc ee)), .second]) X28 hx (hb hby at_381) (pc' := 383) rfl rfl ?_
              obtain ⟨hh, hhh⟩ : ∃ z : Int64, z = (own_gcd cc ee) := ⟨_, rfl⟩
              rw [← hhh]
              refine w_goto X28 hx (hb hby at_383) (pc' := 395) (by decide) (by decide) ?_
              refine w_iload X28 hx (hb hby at_395) (pc' := 397) rfl rfl ?_
              have hf397 : ¬ ((1 : Int32) = (0 : Int32)) := (by decide)
              refine w_if_eq X28 hx (hb hby at_397) (pf := 400) (pt := 412) rfl (by decide) (by decide) (fun hc => absurd hc hf397) (fun hc397 => ?_)
              refine w_lload X28 hx (hb hby at_400) (pc' := 402) rfl rfl ?_
              refine w_lload X28 hx (hb hby at_402) (pc' := 404) rfl rfl ?_
              refine w_lcmp X28 hx (hb hby at_404) (pc' := 405) rfl ?_
              have hf405 : hh = dd := own_s3d hdd hxx hkk hyy hcc hee (by first | exact Or.inl hhh | exact Or.inr hhh)
              refine w_ifL_ne X28 hx (hb hby at_405) (pf := 408) (pt := 412) rfl (by decide) (by decide) (fun hc => absurd hf405 hc) (fun hc405 => ?_)
              refine w_iconst (v := 1) X28 hx (hb hby at_408) (pc' := 409) rfl rfl ?_
              refine w_goto X28 hx (hb hby at_409) (pc' := 413) (by decide) (by decide) ?_
              refine w_istore (Ls' := #[.val (.long x0), .second, .val (.long x1), .second, .val (.long x2), .second, .val (.long x3), .second, .val (.long x4), .second, .val (.int x5), .val (.long v11), .second, .val (.long v12), .second, .val (.int zz), .val (.long gv), .second, .val (.int (1 : Int32)), .val (.long mk), .second, .val (.long uu), .second, .val (.long vv), .second, .val (.long mu), .second, .val (.long mv), .second, .val (.long g2), .second, .val (.long dd), .second, .val (.long xx), .second, .val (.long kk), .second, .val (.long yy), .second, .val (.long cc), .second, .val (.long ee), .second, .val (.long hh), .second]) X28 hx (hb hby at_413) (pc' := 415) rfl rfl ?_
              refine w_iload X28 hx (hb hby at_415) (pc' := 417) rfl rfl ?_
              exact w_retZ X28 hx hret hlk (hb hby at_417) (by decide) (by decide) ⟨rfl, N28⟩
    · refine w_lload X14 hx (hb hby at_72) (pc' := 74) rfl rfl ?_
      refine w_lload X14 hx (hb hby at_74) (pc' := 76) rfl rfl ?_
      refine w_lcmp X14 hx (hb hby at_76) (pc' := 77) rfl ?_
      have hf77 : gv = v12 := own_a0 (own_va (by first | exact Or.inl rfl | exact Or.inr hb1) (by first | exact Or.inl rfl | exact Or.inr hb1) (by first | exact Or.inl rfl | exact Or.inr hb1) (by first | exact Or.inl rfl | exact Or.inr hb1) hv12) hc69 hgv
      refine w_ifL_ne X14 hx (hb hby at_77) (pf := 80) (pt := 84) rfl (by decide) (by decide) (fun hc => absurd hf77 hc) (fun hc77 => ?_)
      refine w_iconst (v := 1) X14 hx (hb hby at_80) (pc' := 81) rfl rfl ?_
      refine w_goto X14 hx (hb hby at_81) (pc' := 85) (by decide) (by decide) ?_
      refine w_istore (Ls' := #[.val (.long x0), .second, .val (.long x1), .second, .val (.long x2), .second, .val (.long x3), .second, .val (.long x4), .second, .val (.int x5), .val (.long v11), .second, .val (.long v12), .second, .val (.int zz), .val (.long gv), .second, .val (.int (1 : Int32)), .unset, .unset, .unset, .unset, .unset, .unset, .unset, .unset, .unset, .unset, .unset, .unset, .unset, .unset, .unset, .unset, .unset, .unset, .unset, .unset, .unset, .unset, .unset, .unset, .unset, .unset]) X14 hx (hb hby at_85) (pc' := 87) rfl rfl ?_
      refine w_goto X14 hx (hb hby at_87) (pc' := 173) (by decide) (by decide) ?_
      refine w_lload X14 hx (hb hby at_173) (pc' := 175) rfl rfl ?_
      refine w_ldc2 X14 hx hZ hown (hw _ (List.mem_of_getElem? (i := 5) rfl)) (hb hby at_175) (pc' := 178) rfl ?_
      refine w_land X14 hx (hb hby at_178) (pc' := 179) rfl ?_
      refine w_lconst (v := 1) X14 hx (hb hby at_179) (pc' := 180) rfl rfl ?_
      refine w_ladd X14 hx (hb hby at_180) (pc' := 181) rfl ?_
      refine w_lstore (Ls' := #[.val (.long x0), .second, .val (.long x1), .second, .val (.long x2), .second, .val (.long x3), .second, .val (.long x4), .second, .val (.int x5), .val (.long v11), .second, .val (.long v12), .second, .val (.int zz), .val (.long gv), .second, .val (.int (1 : Int32)), .val (.long ((x3 &&& (2147483647 : Int64)) + (1 : Int64))), .second, .unset, .unset, .unset, .unset, .unset, .unset, .unset, .unset, .unset, .unset, .unset, .unset, .unset, .unset, .unset, .unset, .unset, .unset, .unset, .unset, .unset, .unset, .unset, .unset]) X14 hx (hb hby at_181) (pc' := 183) rfl rfl ?_
      obtain ⟨mk, hmk⟩ : ∃ z : Int64, z = ((x3 &&& (2147483647 : Int64)) + (1 : Int64)) := ⟨_, rfl⟩
      rw [← hmk]
      refine w_lload X14 hx (hb hby at_183) (pc' := 185) rfl rfl ?_
      refine w_bipush (v := 33) X14 hx (hb hby at_185) (pc' := 187) rfl rfl ?_
      refine w_lushr X14 hx (hb hby at_187) (pc' := 188) rfl ?_
      refine w_ldc2 X14 hx hZ hown (hw _ (List.mem_of_getElem? (i := 5) rfl)) (hb hby at_188) (pc' := 191) rfl ?_
      refine w_land X14 hx (hb hby at_191) (pc' := 192) rfl ?_
      refine w_lstore (Ls' := #[.val (.long x0), .second, .val (.long x1), .second, .val (.long x2), .second, .val (.long x3), .second, .val (.long x4), .second, .val (.int x5), .val (.long v11), .second, .val (.long v12), .second, .val (.int zz), .val (.long gv), .second, .val (.int (1 : Int32)), .val (.long mk), .second, .val (.long ((jlushr x3 (33 : Int32)) &&& (2147483647 : Int64))), .second, .unset, .unset, .unset, .unset, .unset, .unset, .unset, .unset, .unset, .unset, .unset, .unset, .unset, .unset, .unset, .unset, .unset, .unset, .unset, .unset, .unset, .unset]) X14 hx (hb hby at_192) (pc' := 194) rfl rfl ?_
      obtain ⟨uu, huu⟩ : ∃ z : Int64, z = ((jlushr x3 (33 : Int32)) &&& (2147483647 : Int64)) := ⟨_, rfl⟩
      rw [← huu]
      refine w_lload X14 hx (hb hby at_194) (pc' := 196) rfl rfl ?_
      refine w_ldc2 X14 hx hZ hown (hw _ (List.mem_of_getElem? (i := 5) rfl)) (hb hby at_196) (pc' := 199) rfl ?_
      refine w_land X14 hx (hb hby at_199) (pc' := 200) rfl ?_
      refine w_lstore (Ls' := #[.val (.long x0), .second, .val (.long x1), .second, .val (.long x2), .second, .val (.long x3), .second, .val (.long x4), .second, .val (.int x5), .val (.long v11), .second, .val (.long v12), .second, .val (.int zz), .val (.long gv), .second, .val (.int (1 : Int32)), .val (.long mk), .second, .val (.long uu), .second, .val (.long (x4 &&& (2147483647 : Int64))), .second, .unset, .unset, .unset, .unset, .unset, .unset, .unset, .unset, .unset, .unset, .unset, .unset, .unset, .unset, .unset, .unset, .unset, .unset, .unset, .unset]) X14 hx (hb hby at_200) (pc' := 202) rfl rfl ?_
      obtain ⟨vv, hvv⟩ : ∃ z : Int64, z = (x4 &&& (2147483647 : Int64)) := ⟨_, rfl⟩
      rw [← hvv]
      refine w_lload X14 hx (hb hby at_202) (pc' := 204) rfl rfl ?_
      refine w_lload X14 hx (hb hby at_204) (pc' := 206) rfl rfl ?_
      refine w_lmul X14 hx (hb hby at_206) (pc' := 207) rfl ?_
      refine w_lstore (Ls' := #[.val (.long x0), .second, .val (.long x1), .second, .val (.long x2), .second, .val (.long x3), .second, .val (.long x4), .second, .val (.int x5), .val (.long v11), .second, .val (.long v12), .second, .val (.int zz), .val (.long gv), .second, .val (.int (1 : Int32)), .val (.long mk), .second, .val (.long uu), .second, .val (.long vv), .second, .val (.long (mk * uu)), .second, .unset, .unset, .unset, .unset, .unset, .unset, .unset, .unset, .unset, .unset, .unset, .unset, .unset, .unset, .unset, .unset, .unset, .unset]) X14 hx (hb hby at_207) (pc' := 209) rfl rfl ?_
      obtain ⟨mu, hmu⟩ : ∃ z : Int64, z = (mk * uu) := ⟨_, rfl⟩
      rw [← hmu]
      refine w_lload X14 hx (hb hby at_209) (pc' := 211) rfl rfl ?_
      refine w_lload X14 hx (hb hby at_211) (pc' := 213) rfl rfl ?_
      refine w_lmul X14 hx (hb hby at_213) (pc' := 214) rfl ?_
      refine w_lstore (Ls' := #[.val (.long x0), .second, .val (.long x1), .second, .val (.long x2), .second, .val (.long x3), .second, .val (.long x4), .second, .val (.int x5), .val (.long v11), .second, .val (.long v12), .second, .val (.int zz), .val (.long gv), .second, .val (.int (1 : Int32)), .val (.long mk), .second, .val (.long uu), .second, .val (.long vv), .second, .val (.long mu), .second, .val (.long (mk * vv)), .second, .unset, .unset, .unset, .unset, .unset, .unset, .unset, .unset, .unset, .unset, .unset, .unset, .unset, .unset, .unset, .unset]) X14 hx (hb hby at_214) (pc' := 216) rfl rfl ?_
      obtain ⟨mv, hmv⟩ : ∃ z : Int64, z = (mk * vv) := ⟨_, rfl⟩
      rw [← hmv]
      refine w_lload X14 hx (hb hby at_216) (pc' := 218) rfl rfl ?_
      refine w_lload X14 hx (hb hby at_218) (pc' := 220) rfl rfl ?_
      refine w_callS (argsL := [(.long mu), (.long mv)]) (rest := []) X14 hx hZ hown e14 (rm1 l Z a0 hw mu mv h0 n0 (own_s2p hmk huu hvv hmu hmv).1 (own_s2p hmk huu hvv hmu hmv).2.1) (hw _ (List.mem_of_getElem? (i := 1) rfl)) (hw _ (List.mem_of_getElem? (i := 2) rfl)) (hw _ (List.mem_of_getElem? (i := 3) rfl)) (hw _ (List.mem_of_getElem? (i := 4) rfl)) (by decide) (by decide) (W := 0) (by decide) (by decide) (by decide) (by rw [hml]; rfl) (lenOf pd_2 rfl) (Nat.le_refl _) rfl (hb hby at_220) (pc' := 223) rfl (fun T29 L29 v29 X29 hQ29 => ?_)
      obtain ⟨rfl, N29q, e29⟩ := hQ29
      have N29 := Fr.app N14 N29q
      have X29 : Stand p l e room_1 s m _ below meth c T29 _ 0 0 := X29
      show Go p e below s room_1.cells room_1.slots (QL (some (.int 1)) n0) T29 (mkF m 223 #[.val (.long x0), .second, .val (.long x1), .second, .val (.long x2), .second, .val (.long x3), .second, .val (.long x4), .second, .val (.int x5), .val (.long v11), .second, .val (.long v12), .second, .val (.int zz), .val (.long gv), .second, .val (.int (1 : Int32)), .val (.long mk), .second, .val (.long uu), .second, .val (.long vv), .second, .val (.long mu), .second, .val (.long mv), .second, .unset, .unset, .unset, .unset, .unset, .unset, .unset, .unset, .unset, .unset, .unset, .unset, .unset, .unset, .unset, .unset] [(.long (own_gcd mu mv))])
      refine w_lstore (Ls' := #[.val (.long x0), .second, .val (.long x1), .second, .val (.long x2), .second, .val (.long x3), .second, .val (.long x4), .second, .val (.int x5), .val (.long v11), .second, .val (.long v12), .second, .val (.int zz), .val (.long gv), .second, .val (.int (1 : Int32)), .val (.long mk), .second, .val (.long uu), .second, .val (.long vv), .second, .val (.long mu), .second, .val (.long mv), .second, .val (.long (own_gcd mu mv)), .second, .unset, .unset, .unset, .unset, .unset, .unset, .unset, .unset, .unset, .unset, .unset, .unset, .unset, .unset]) X29 hx (hb hby at_223) (pc' := 225) rfl rfl ?_
      obtain ⟨g2, hg2⟩ : ∃ z : Int64, z = (own_gcd mu mv) := ⟨_, rfl⟩
      rw [← hg2]
      refine w_lload X29 hx (hb hby at_225) (pc' := 227) rfl rfl ?_
      refine w_lconst (v := 0) X29 hx (hb hby at_227) (pc' := 228) rfl rfl ?_
      refine w_lcmp X29 hx (hb hby at_228) (pc' := 229) rfl ?_
      refine w_ifL_ne X29 hx (hb hby at_229) (pf := 232) (pt := 261) rfl (by decide) (by decide) (fun hc229 => ?_) (fun hc229 => ?_)
      · refine w_iload X29 hx (hb hby at_261) (pc' := 263) rfl rfl ?_
        have hf263 : ¬ ((1 : Int32) = (0 : Int32)) := (by decide)
        refine w_if_eq X29 hx (hb hby at_263) (pf := 266) (pt := 307) rfl (by decide) (by decide) (fun hc => absurd hc hf263) (fun hc263 => ?_)
        refine w_lload X29 hx (hb hby at_266) (pc' := 268) rfl rfl ?_
        refine w_lconst (v := 0) X29 hx (hb hby at_268) (pc' := 269) rfl rfl ?_
        refine w_lcmp X29 hx (hb hby at_269) (pc' := 270) rfl ?_
        have hf270 : (0 : Int64) < g2 := (own_gpos (own_s2p hmk huu hvv hmu hmv).1 (own_s2p hmk huu hvv hmu hmv).2.1 (by first | exact Or.inl hc229 | exact Or.inr hc236) hg2).1
        refine w_ifL_le X29 hx (hb hby at_270) (pf := 273) (pt := 307) rfl (by decide) (by decide) (fun hc => absurd hf270 hc) (fun hc270 => ?_)
        refine w_lload X29 hx (hb hby at_273) (pc' := 275) rfl rfl ?_
        refine w_lload X29 hx (hb hby at_275) (pc' := 277) rfl rfl ?_
        refine w_lrem X29 hx (hb hby at_277) (pc' := 278) rfl (own_s2p hmk huu hvv hmu hmv).2.2 ?_
        refine w_lconst (v := 0) X29 hx (hb hby at_278) (pc' := 279) rfl rfl ?_
        refine w_lcmp X29 hx (hb hby at_279) (pc' := 280) rfl ?_
        have hf280 : (g2 % mk) = (0 : Int64) := own_s2d hmk huu hvv hmu hmv hg2
        refine w_ifL_ne X29 hx (hb hby at_280) (pf := 283) (pt := 307) rfl (by decide) (by decide) (fun hc => absurd hf280 hc) (fun hc280 => ?_)
        refine w_lload X29 hx (hb hby at_283) (pc' := 285) rfl rfl ?_
        refine w_lload X29 hx (hb hby at_285) (pc' := 287) rfl rfl ?_
        refine w_lrem X29 hx (hb hby at_287) (pc' := 288) rfl (own_gpos (own_s2p hmk huu hvv hmu hmv).1 (own_s2p hmk huu hvv hmu hmv).2.1 (by first | exact Or.inl hc229 | exact Or.inr hc236) hg2).2.2.2.1 ?_
        refine w_lconst (v := 0) X29 hx (hb hby at_288) (pc' := 289) rfl rfl ?_
        refine w_lcmp X29 hx (hb hby at_289) (pc' := 290) rfl ?_
        have hf290 : (mu % g2) = (0 : Int64) := (own_gpos (own_s2p hmk huu hvv hmu hmv).1 (own_s2p hmk huu hvv hmu hmv).2.1 (by first | exact Or.inl hc229 | exact Or.inr hc236) hg2).2.1
        refine w_ifL_ne X29 hx (hb hby at_290) (pf := 293) (pt := 307) rfl (by decide) (by decide) (fun hc => absurd hf290 hc) (fun hc290 => ?_)
        refine w_lload X29 hx (hb hby at_293) (pc' := 295) rfl rfl ?_
        refine w_lload X29 hx (hb hby at_295) (pc' := 297) rfl rfl ?_
        refine w_lrem X29 hx (hb hby at_297) (pc' := 298) rfl (own_gpos (own_s2p hmk huu hvv hmu hmv).1 (own_s2p hmk huu hvv hmu hmv).2.1 (by first | exact Or.inl hc229 | exact Or.inr hc236) hg2).2.2.2.1 ?_
        refine w_lconst (v := 0) X29 hx (hb hby at_298) (pc' := 299) rfl rfl ?_
        refine w_lcmp X29 hx (hb hby at_299) (pc' := 300) rfl ?_
        have hf300 : (mv % g2) = (0 : Int64) := (own_gpos (own_s2p hmk huu hvv hmu hmv).1 (own_s2p hmk huu hvv hmu hmv).2.1 (by first | exact Or.inl hc229 | exact Or.inr hc236) hg2).2.2.1
        refine w_ifL_ne X29 hx (hb hby at_300) (pf := 303) (pt := 307) rfl (by decide) (by decide) (fun hc => absurd hf300 hc) (fun hc300 => ?_)
        refine w_iconst (v := 1) X29 hx (hb hby at_303) (pc' := 304) rfl rfl ?_
        refine w_goto X29 hx (hb hby at_304) (pc' := 308) (by decide) (by decide) ?_
        refine w_istore (Ls' := #[.val (.long x0), .second, .val (.long x1), .second, .val (.long x2), .second, .val (.long x3), .second, .val (.long x4), .second, .val (.int x5), .val (.long v11), .second, .val (.long v12), .second, .val (.int zz), .val (.long gv), .second, .val (.int (1 : Int32)), .val (.long mk), .second, .val (.long uu), .second, .val (.long vv), .second, .val (.long mu), .second, .val (.long mv), .second, .val (.long g2), .second, .unset, .unset, .unset, .unset, .unset, .unset, .unset, .unset, .unset, .unset, .unset, .unset, .unset, .unset]) X29 hx (hb hby at_308) (pc' := 310) rfl rfl ?_
        refine w_lload X29 hx (hb hby at_310) (pc' := 312) rfl rfl ?_
        refine w_ldc2 X29 hx hZ hown (hw _ (List.mem_of_getElem? (i := 6) rfl)) (hb hby at_312) (pc' := 315) rfl ?_
        refine w_land X29 hx (hb hby at_315) (pc' := 316) rfl ?_
        refine w_lconst (v := 1) X29 hx (hb hby at_316) (pc' := 317) rfl rfl ?_
        refine w_ladd X29 hx (hb hby at_317) (pc' := 318) rfl ?_
        refine w_lstore (Ls' := #[.val (.long x0), .second, .val (.long x1), .second, .val (.long x2), .second, .val (.long x3), .second, .val (.long x4), .second, .val (.int x5), .val (.long v11), .second, .val (.long v12), .second, .val (.int zz), .val (.long gv), .second, .val (.int (1 : Int32)), .val (.long mk), .second, .val (.long uu), .second, .val (.long vv), .second, .val (.long mu), .second, .val (.long mv), .second, .val (.long g2), .second, .val (.long ((x2 &&& (1048575 : Int64)) + (1 : Int64))), .second, .unset, .unset, .unset, .unset, .unset, .unset, .unset, .unset, .unset, .unset, .unset, .unset]) X29 hx (hb hby at_318) (pc' := 320) rfl rfl ?_
        obtain ⟨dd, hdd⟩ : ∃ z : Int64, z = ((x2 &&& (1048575 : Int64)) + (1 : Int64)) := ⟨_, rfl⟩
        rw [← hdd]
        refine w_lload X29 hx (hb hby at_320) (pc' := 322) rfl rfl ?_
        refine w_bipush (v := 20) X29 hx (hb hby at_322) (pc' := 324) rfl rfl ?_
        refine w_lushr X29 hx (hb hby at_324) (pc' := 325) rfl ?_
        refine w_ldc2 X29 hx hZ hown (hw _ (List.mem_of_getElem? (i := 6) rfl)) (hb hby at_325) (pc' := 328) rfl ?_
        refine w_land X29 hx (hb hby at_328) (pc' := 329) rfl ?_
        refine w_lconst (v := 1) X29 hx (hb hby at_329) (pc' := 330) rfl rfl ?_
        refine w_ladd X29 hx (hb hby at_330) (pc' := 331) rfl ?_
        refine w_lstore (Ls' := #[.val (.long x0), .second, .val (.long x1), .second, .val (.long x2), .second, .val (.long x3), .second, .val (.long x4), .second, .val (.int x5), .val (.long v11), .second, .val (.long v12), .second, .val (.int zz), .val (.long gv), .second, .val (.int (1 : Int32)), .val (.long mk), .second, .val (.long uu), .second, .val (.long vv), .second, .val (.long mu), .second, .val (.long mv), .second, .val (.long g2), .second, .val (.long dd), .second, .val (.long (((jlushr x2 (20 : Int32)) &&& (1048575 : Int64)) + (1 : Int64))), .second, .unset, .unset, .unset, .unset, .unset, .unset, .unset, .unset, .unset, .unset]) X29 hx (hb hby at_331) (pc' := 333) rfl rfl ?_
        obtain ⟨xx, hxx⟩ : ∃ z : Int64, z = (((jlushr x2 (20 : Int32)) &&& (1048575 : Int64)) + (1 : Int64)) := ⟨_, rfl⟩
        rw [← hxx]
        refine w_lload X29 hx (hb hby at_333) (pc' := 335) rfl rfl ?_
        refine w_bipush (v := 40) X29 hx (hb hby at_335) (pc' := 337) rfl rfl ?_
        refine w_lushr X29 hx (hb hby at_337) (pc' := 338) rfl ?_
        refine w_ldc2 X29 hx hZ hown (hw _ (List.mem_of_getElem? (i := 6) rfl)) (hb hby at_338) (pc' := 341) rfl ?_
        refine w_land X29 hx (hb hby at_341) (pc' := 342) rfl ?_
        refine w_lstore (Ls' := #[.val (.long x0), .second, .val (.long x1), .second, .val (.long x2), .second, .val (.long x3), .second, .val (.long x4), .second, .val (.int x5), .val (.long v11), .second, .val (.long v12), .second, .val (.int zz), .val (.long gv), .second, .val (.int (1 : Int32)), .val (.long mk), .second, .val (.long uu), .second, .val (.long vv), .second, .val (.long mu), .second, .val (.long mv), .second, .val (.long g2), .second, .val (.long dd), .second, .val (.long xx), .second, .val (.long ((jlushr x2 (40 : Int32)) &&& (1048575 : Int64))), .second, .unset, .unset, .unset, .unset, .unset, .unset, .unset, .unset]) X29 hx (hb hby at_342) (pc' := 344) rfl rfl ?_
        obtain ⟨kk, hkk⟩ : ∃ z : Int64, z = ((jlushr x2 (40 : Int32)) &&& (1048575 : Int64)) := ⟨_, rfl⟩
        rw [← hkk]
        refine w_lload X29 hx (hb hby at_344) (pc' := 346) rfl rfl ?_
        refine w_lload X29 hx (hb hby at_346) (pc' := 348) rfl rfl ?_
        refine w_lmul X29 hx (hb hby at_348) (pc' := 349) rfl ?_
        refine w_lconst (v := 1) X29 hx (hb hby at_349) (pc' := 350) rfl rfl ?_
        refine w_ladd X29 hx (hb hby at_350) (pc' := 351) rfl ?_
        refine w_lstore (Ls' := #[.val (.long x0), .second, .val (.long x1), .second, .val (.long x2), .second, .val (.long x3), .second, .val (.long x4), .second, .val (.int x5), .val (.long v11), .second, .val (.long v12), .second, .val (.int zz), .val (.long gv), .second, .val (.int (1 : Int32)), .val (.long mk), .second, .val (.long uu), .second, .val (.long vv), .second, .val (.long mu), .second, .val (.long mv), .second, .val (.long g2), .second, .val (.long dd), .second, .val (.long xx), .second, .val (.long kk), .second, .val (.long ((kk * xx) + (1 : Int64))), .second, .unset, .unset, .unset, .unset, .unset, .unset]) X29 hx (hb hby at_351) (pc' := 353) rfl rfl ?_
        obtain ⟨yy, hyy⟩ : ∃ z : Int64, z = ((kk * xx) + (1 : Int64)) := ⟨_, rfl⟩
        rw [← hyy]
        refine w_lload X29 hx (hb hby at_353) (pc' := 355) rfl rfl ?_
        refine w_lload X29 hx (hb hby at_355) (pc' := 357) rfl rfl ?_
        refine w_lmul X29 hx (hb hby at_357) (pc' := 358) rfl ?_
        refine w_lstore (Ls' := #[.val (.long x0), .second, .val (.long x1), .second, .val (.long x2), .second, .val (.long x3), .second, .val (.long x4), .second, .val (.int x5), .val (.long v11), .second, .val (.long v12), .second, .val (.int zz), .val (.long gv), .second, .val (.int (1 : Int32)), .val (.long mk), .second, .val (.long uu), .second, .val (.long vv), .second, .val (.long mu), .second, .val (.long mv), .second, .val (.long g2), .second, .val (.long dd), .second, .val (.long xx), .second, .val (.long kk), .second, .val (.long yy), .second, .val (.long (dd * xx)), .second, .unset, .unset, .unset, .unset]) X29 hx (hb hby at_358) (pc' := 360) rfl rfl ?_
        obtain ⟨cc, hcc⟩ : ∃ z : Int64, z = (dd * xx) := ⟨_, rfl⟩
        rw [← hcc]
        refine w_lload X29 hx (hb hby at_360) (pc' := 362) rfl rfl ?_
        refine w_lload X29 hx (hb hby at_362) (pc' := 364) rfl rfl ?_
        refine w_lmul X29 hx (hb hby at_364) (pc' := 365) rfl ?_
        refine w_lstore (Ls' := #[.val (.long x0), .second, .val (.long x1), .second, .val (.long x2), .second, .val (.long x3), .second, .val (.long x4), .second, .val (.int x5), .val (.long v11), .second, .val (.long v12), .second, .val (.int zz), .val (.long gv), .second, .val (.int (1 : Int32)), .val (.long mk), .second, .val (.long uu), .second, .val (.long vv), .second, .val (.long mu), .second, .val (.long mv), .second, .val (.long g2), .second, .val (.long dd), .second, .val (.long xx), .second, .val (.long kk), .second, .val (.long yy), .second, .val (.long cc), .second, .val (.long (dd * yy)), .second, .unset, .unset]) X29 hx (hb hby at_365) (pc' := 367) rfl rfl ?_
        obtain ⟨ee, hee⟩ : ∃ z : Int64, z = (dd * yy) := ⟨_, rfl⟩
        rw [← hee]
        refine w_iload X29 hx (hb hby at_367) (pc' := 369) rfl rfl ?_
        refine w_iconst (v := 4) X29 hx (hb hby at_369) (pc' := 370) rfl rfl ?_
        refine w_iand X29 hx (hb hby at_370) (pc' := 371) rfl ?_
        refine w_if_eq X29 hx (hb hby at_371) (pf := 374) (pt := 386) rfl (by decide) (by decide) (fun hc371 => ?_) (fun hc371 => ?_)
        · refine w_lload X29 hx (hb hby at_386) (pc' := 388) rfl rfl ?_
          refine w_lload X29 hx (hb hby at_388) (pc' := 390) rfl rfl ?_
          refine w_callS (argsL := [(.long ee), (.long cc)]) (rest := []) X29 hx hZ hown e29 (rm1 l Z a0 hw ee cc h0 n0 (own_s3p hdd hxx hkk hyy hcc hee).2 (own_s3p hdd hxx hkk hyy hcc hee).1) (hw _ (List.mem_of_getElem? (i := 1) rfl)) (hw _ (List.mem_of_getElem? (i := 2) rfl)) (hw _ (List.mem_of_getElem? (i := 3) rfl)) (hw _ (List.mem_of_getElem? (i := 4) rfl)) (by decide) (by decide) (W := 0) (by decide) (by decide) (by decide) (by rw [hml]; rfl) (lenOf pd_2 rfl) (Nat.le_refl _) rfl (hb hby at_390) (pc' := 393) rfl (fun T30 L30 v30 X30 hQ30 => ?_)
          obtain ⟨rfl, N30q, e30⟩ := hQ30
          have N30 := Fr.app N29 N30q
          have X30 : Stand p l e room_1 s m _ below meth c T30 _ 0 0 := X30
          show Go p e below s room_1.cells room_1.slots (QL (some (.int 1)) n0) T30 (mkF m 393 #[.val (.long x0), .second, .val (.long x1), .second, .val (.long x2), .second, .val (.long x3), .second, .val (.long x4), .second, .val (.int x5), .val (.long v11), .second, .val (.long v12), .second, .val (.int zz), .val (.long gv), .second, .val (.int (1 : Int32)), .val (.long mk), .second, .val (.long uu), .second, .val (.long vv), .second, .val (.long mu), .second, .val (.long mv), .second, .val (.long g2), .second, .val (.long dd), .second, .val (.long xx), .second, .val (.long kk), .second, .val (.long yy), .second, .val (.long cc), .second, .val (.long ee), .second, .unset, .unset] [(.long (own_gcd ee cc))])
          refine w_lstore (Ls' := #[.val (.long x0), .second, .val (.long x1), .second, .val (.long x2), .second, .val (.long x3), .second, .val (.long x4), .second, .val (.int x5), .val (.long v11), .second, .val (.long v12), .second, .val (.int zz), .val (.long gv), .second, .val (.int (1 : Int32)), .val (.long mk), .second, .val (.long uu), .second, .val (.long vv), .second, .val (.long mu), .second, .val (.long mv), .second, .val (.long g2), .second, .val (.long dd), .second, .val (.long xx), .second, .val (.long kk), .second, .val (.long yy), .second, .val (.long cc), .second, .val (.long ee), .second, .val (.long (own_gcd ee cc)), .second]) X30 hx (hb hby at_393) (pc' := 395) rfl rfl ?_
          obtain ⟨hh, hhh⟩ : ∃ z : Int64, z = (own_gcd ee cc) := ⟨_, rfl⟩
          rw [← hhh]
          refine w_iload X30 hx (hb hby at_395) (pc' := 397) rfl rfl ?_
          have hf397 : ¬ ((1 : Int32) = (0 : Int32)) := (by decide)
          refine w_if_eq X30 hx (hb hby at_397) (pf := 400) (pt := 412) rfl (by decide) (by decide) (fun hc => absurd hc hf397) (fun hc397 => ?_)
          refine w_lload X30 hx (hb hby at_400) (pc' := 402) rfl rfl ?_
          refine w_lload X30 hx (hb hby at_402) (pc' := 404) rfl rfl ?_
          refine w_lcmp X30 hx (hb hby at_404) (pc' := 405) rfl ?_
          have hf405 : hh = dd := own_s3d hdd hxx hkk hyy hcc hee (by first | exact Or.inl hhh | exact Or.inr hhh)
          refine w_ifL_ne X30 hx (hb hby at_405) (pf := 408) (pt := 412) rfl (by decide) (by decide) (fun hc => absurd hf405 hc) (fun hc405 => ?_)
          refine w_iconst (v := 1) X30 hx (hb hby at_408) (pc' := 409) rfl rfl ?_
          refine w_goto X30 hx (hb hby at_409) (pc' := 413) (by decide) (by decide) ?_
          refine w_istore (Ls' := #[.val (.long x0), .second, .val (.long x1), .second, .val (.long x2), .second, .val (.long x3), .second, .val (.long x4), .second, .val (.int x5), .val (.long v11), .second, .val (.long v12), .second, .val (.int zz), .val (.long gv), .second, .val (.int (1 : Int32)), .val (.long mk), .second, .val (.long uu), .second, .val (.long vv), .second, .val (.long mu), .second, .val (.long mv), .second, .val (.long g2), .second, .val (.long dd), .second, .val (.long xx), .second, .val (.long kk), .second, .val (.long yy), .second, .val (.long cc), .second, .val (.long ee), .second, .val (.long hh), .second]) X30 hx (hb hby at_413) (pc' := 415) rfl rfl ?_
          refine w_iload X30 hx (hb hby at_415) (pc' := 417) rfl rfl ?_
          exact w_retZ X30 hx hret hlk (hb hby at_417) (by decide) (by decide) ⟨rfl, N30⟩
        · refine w_lload X29 hx (hb hby at_374) (pc' := 376) rfl rfl ?_
          refine w_lload X29 hx (hb hby at_376) (pc' := 378) rfl rfl ?_
          refine w_callS (argsL := [(.long cc), (.long ee)]) (rest := []) X29 hx hZ hown e29 (rm1 l Z a0 hw cc ee h0 n0 (own_s3p hdd hxx hkk hyy hcc hee).1 (own_s3p hdd hxx hkk hyy hcc hee).2) (hw _ (List.mem_of_getElem? (i := 1) rfl)) (hw _ (List.mem_of_getElem? (i := 2) rfl)) (hw _ (List.mem_of_getElem? (i := 3) rfl)) (hw _ (List.mem_of_getElem? (i := 4) rfl)) (by decide) (by decide) (W := 0) (by decide) (by decide) (by decide) (by rw [hml]; rfl) (lenOf pd_2 rfl) (Nat.le_refl _) rfl (hb hby at_378) (pc' := 381) rfl (fun T31 L31 v31 X31 hQ31 => ?_)
          obtain ⟨rfl, N31q, e31⟩ := hQ31
          have N31 := Fr.app N29 N31q
          have X31 : Stand p l e room_1 s m _ below meth c T31 _ 0 0 := X31
          show Go p e below s room_1.cells room_1.slots (QL (some (.int 1)) n0) T31 (mkF m 381 #[.val (.long x0), .second, .val (.long x1), .second, .val (.long x2), .second, .val (.long x3), .second, .val (.long x4), .second, .val (.int x5), .val (.long v11), .second, .val (.long v12), .second, .val (.int zz), .val (.long gv), .second, .val (.int (1 : Int32)), .val (.long mk), .second, .val (.long uu), .second, .val (.long vv), .second, .val (.long mu), .second, .val (.long mv), .second, .val (.long g2), .second, .val (.long dd), .second, .val (.long xx), .second, .val (.long kk), .second, .val (.long yy), .second, .val (.long cc), .second, .val (.long ee), .second, .unset, .unset] [(.long (own_gcd cc ee))])
          refine w_lstore (Ls' := #[.val (.long x0), .second, .val (.long x1), .second, .val (.long x2), .second, .val (.long x3), .second, .val (.long x4), .second, .val (.int x5), .val (.long v11), .second, .val (.long v12), .second, .val (.int zz), .val (.long gv), .second, .val (.int (1 : Int32)), .val (.long mk), .second, .val (.long uu), .second, .val (.long vv), .second, .val (.long mu), .second, .val (.long mv), .second, .val (.long g2), .second, .val (.long dd), .second, .val (.long xx), .second, .val (.long kk), .second, .val (.long yy), .second, .val (.long cc), .second, .val (.long ee), .second, .val (.long (own_gcd cc ee)), .second]) X31 hx (hb hby at_381) (pc' := 383) rfl rfl ?_
          obtain ⟨hh, hhh⟩ : ∃ z : Int64, z = (own_gcd cc ee) := ⟨_, rfl⟩
          rw [← hhh]
          refine w_goto X31 hx (hb hby at_383) (pc' := 395) (by decide) (by decide) ?_
          refine w_iload X31 hx (hb hby at_395) (pc' := 397) rfl rfl ?_
          have hf397 : ¬ ((1 : Int32) = (0 : Int32)) := (by decide)
          refine w_if_eq X31 hx (hb hby at_397) (pf := 400) (pt := 412) rfl (by decide) (by decide) (fun hc => absurd hc hf397) (fun hc397 => ?_)
          refine w_lload X31 hx (hb hby at_400) (pc' := 402) rfl rfl ?_
          refine w_lload X31 hx (hb hby at_402) (pc' := 404) rfl rfl ?_
          refine w_lcmp X31 hx (hb hby at_404) (pc' := 405) rfl ?_
          have hf405 : hh = dd := own_s3d hdd hxx hkk hyy hcc hee (by first | exact Or.inl hhh | exact Or.inr hhh)
          refine w_ifL_ne X31 hx (hb hby at_405) (pf := 408) (pt := 412) rfl (by decide) (by decide) (fun hc => absurd hf405 hc) (fun hc405 => ?_)
          refine w_iconst (v := 1) X31 hx (hb hby at_408) (pc' := 409) rfl rfl ?_
          refine w_goto X31 hx (hb hby at_409) (pc' := 413) (by decide) (by decide) ?_
          refine w_istore (Ls' := #[.val (.long x0), .second, .val (.long x1), .second, .val (.long x2), .second, .val (.long x3), .second, .val (.long x4), .second, .val (.int x5), .val (.long v11), .second, .val (.long v12), .second, .val (.int zz), .val (.long gv), .second, .val (.int (1 : Int32)), .val (.long mk), .second, .val (.long uu), .second, .val (.long vv), .second, .val (.long mu), .second, .val (.long mv), .second, .val (.long g2), .second, .val (.long dd), .second, .val (.long xx), .second, .val (.long kk), .second, .val (.long yy), .second, .val (.long cc), .second, .val (.long ee), .second, .val (.long hh), .second]) X31 hx (hb hby at_413) (pc' := 415) rfl rfl ?_
          refine w_iload X31 hx (hb hby at_415) (pc' := 417) rfl rfl ?_
          exact w_retZ X31 hx hret hlk (hb hby at_417) (by decide) (by decide) ⟨rfl, N31⟩
      · refine w_lload X29 hx (hb hby at_232) (pc' := 234) rfl rfl ?_
        refine w_lconst (v := 0) X29 hx (hb hby at_234) (pc' := 235) rfl rfl ?_
        refine w_lcmp X29 hx (hb hby at_235) (pc' := 236) rfl ?_
        refine w_ifL_ne X29 hx (hb hby at_236) (pf := 239) (pt := 261) rfl (by decide) (by decide) (fun hc236 => ?_) (fun hc236 => ?_)
        · refine w_iload X29 hx (hb hby at_261) (pc' := 263) rfl rfl ?_
          have hf263 : ¬ ((1 : Int32) = (0 : Int32)) := (by decide)
          refine w_if_eq X29 hx (hb hby at_263) (pf := 266) (pt := 307) rfl (by decide) (by decide) (fun hc => absurd hc hf263) (fun hc263 => ?_)
          refine w_lload X29 hx (hb hby at_266) (pc' := 268) rfl rfl ?_
          refine w_lconst (v := 0) X29 hx (hb hby at_268) (pc' := 269) rfl rfl ?_
          refine w_lcmp X29 hx (hb hby at_269) (pc' := 270) rfl ?_
          have hf270 : (0 : Int64) < g2 := (own_gpos (own_s2p hmk huu hvv hmu hmv).1 (own_s2p hmk huu hvv hmu hmv).2.1 (by first | exact Or.inl hc229 | exact Or.inr hc236) hg2).1
          refine w_ifL_le X29 hx (hb hby at_270) (pf := 273) (pt := 307) rfl (by decide) (by decide) (fun hc => absurd hf270 hc) (fun hc270 => ?_)
          refine w_lload X29 hx (hb hby at_273) (pc' := 275) rfl rfl ?_
          refine w_lload X29 hx (hb hby at_275) (pc' := 277) rfl rfl ?_
          refine w_lrem X29 hx (hb hby at_277) (pc' := 278) rfl (own_s2p hmk huu hvv hmu hmv).2.2 ?_
          refine w_lconst (v := 0) X29 hx (hb hby at_278) (pc' := 279) rfl rfl ?_
          refine w_lcmp X29 hx (hb hby at_279) (pc' := 280) rfl ?_
          have hf280 : (g2 % mk) = (0 : Int64) := own_s2d hmk huu hvv hmu hmv hg2
          refine w_ifL_ne X29 hx (hb hby at_280) (pf := 283) (pt := 307) rfl (by decide) (by decide) (fun hc => absurd hf280 hc) (fun hc280 => ?_)
          refine w_lload X29 hx (hb hby at_283) (pc' := 285) rfl rfl ?_
          refine w_lload X29 hx (hb hby at_285) (pc' := 287) rfl rfl ?_
          refine w_lrem X29 hx (hb hby at_287) (pc' := 288) rfl (own_gpos (own_s2p hmk huu hvv hmu hmv).1 (own_s2p hmk huu hvv hmu hmv).2.1 (by first | exact Or.inl hc229 | exact Or.inr hc236) hg2).2.2.2.1 ?_
          refine w_lconst (v := 0) X29 hx (hb hby at_288) (pc' := 289) rfl rfl ?_
          refine w_lcmp X29 hx (hb hby at_289) (pc' := 290) rfl ?_
          have hf290 : (mu % g2) = (0 : Int64) := (own_gpos (own_s2p hmk huu hvv hmu hmv).1 (own_s2p hmk huu hvv hmu hmv).2.1 (by first | exact Or.inl hc229 | exact Or.inr hc236) hg2).2.1
          refine w_ifL_ne X29 hx (hb hby at_290) (pf := 293) (pt := 307) rfl (by decide) (by decide) (fun hc => absurd hf290 hc) (fun hc290 => ?_)
          refine w_lload X29 hx (hb hby at_293) (pc' := 295) rfl rfl ?_
          refine w_lload X29 hx (hb hby at_295) (pc' := 297) rfl rfl ?_
          refine w_lrem X29 hx (hb hby at_297) (pc' := 298) rfl (own_gpos (own_s2p hmk huu hvv hmu hmv).1 (own_s2p hmk huu hvv hmu hmv).2.1 (by first | exact Or.inl hc229 | exact Or.inr hc236) hg2).2.2.2.1 ?_
          refine w_lconst (v := 0) X29 hx (hb hby at_298) (pc' := 299) rfl rfl ?_
          refine w_lcmp X29 hx (hb hby at_299) (pc' := 300) rfl ?_
          have hf300 : (mv % g2) = (0 : Int64) := (own_gpos (own_s2p hmk huu hvv hmu hmv).1 (own_s2p hmk huu hvv hmu hmv).2.1 (by first | exact Or.inl hc229 | exact Or.inr hc236) hg2).2.2.1
          refine w_ifL_ne X29 hx (hb hby at_300) (pf := 303) (pt := 307) rfl (by decide) (by decide) (fun hc => absurd hf300 hc) (fun hc300 => ?_)
          refine w_iconst (v := 1) X29 hx (hb hby at_303) (pc' := 304) rfl rfl ?_
          refine w_goto X29 hx (hb hby at_304) (pc' := 308) (by decide) (by decide) ?_
          refine w_istore (Ls' := #[.val (.long x0), .second, .val (.long x1), .second, .val (.long x2), .second, .val (.long x3), .second, .val (.long x4), .second, .val (.int x5), .val (.long v11), .second, .val (.long v12), .second, .val (.int zz), .val (.long gv), .second, .val (.int (1 : Int32)), .val (.long mk), .second, .val (.long uu), .second, .val (.long vv), .second, .val (.long mu), .second, .val (.long mv), .second, .val (.long g2), .second, .unset, .unset, .unset, .unset, .unset, .unset, .unset, .unset, .unset, .unset, .unset, .unset, .unset, .unset]) X29 hx (hb hby at_308) (pc' := 310) rfl rfl ?_
          refine w_lload X29 hx (hb hby at_310) (pc' := 312) rfl rfl ?_
          refine w_ldc2 X29 hx hZ hown (hw _ (List.mem_of_getElem? (i := 6) rfl)) (hb hby at_312) (pc' := 315) rfl ?_
          refine w_land X29 hx (hb hby at_315) (pc' := 316) rfl ?_
          refine w_lconst (v := 1) X29 hx (hb hby at_316) (pc' := 317) rfl rfl ?_
          refine w_ladd X29 hx (hb hby at_317) (pc' := 318) rfl ?_
          refine w_lstore (Ls' := #[.val (.long x0), .second, .val (.long x1), .second, .val (.long x2), .second, .val (.long x3), .second, .val (.long x4), .second, .val (.int x5), .val (.long v11), .second, .val (.long v12), .second, .val (.int zz), .val (.long gv), .second, .val (.int (1 : Int32)), .val (.long mk), .second, .val (.long uu), .second, .val (.long vv), .second, .val (.long mu), .second, .val (.long mv), .second, .val (.long g2), .second, .val (.long ((x2 &&& (1048575 : Int64)) + (1 : Int64))), .second, .unset, .unset, .unset, .unset, .unset, .unset, .unset, .unset, .unset, .unset, .unset, .unset]) X29 hx (hb hby at_318) (pc' := 320) rfl rfl ?_
          obtain ⟨dd, hdd⟩ : ∃ z : Int64, z = ((x2 &&& (1048575 : Int64)) + (1 : Int64)) := ⟨_, rfl⟩
          rw [← hdd]
          refine w_lload X29 hx (hb hby at_320) (pc' := 322) rfl rfl ?_
          refine w_bipush (v := 20) X29 hx (hb hby at_322) (pc' := 324) rfl rfl ?_
          refine w_lushr X29 hx (hb hby at_324) (pc' := 325) rfl ?_
          refine w_ldc2 X29 hx hZ hown (hw _ (List.mem_of_getElem? (i := 6) rfl)) (hb hby at_325) (pc' := 328) rfl ?_
          refine w_land X29 hx (hb hby at_328) (pc' := 329) rfl ?_
          refine w_lconst (v := 1) X29 hx (hb hby at_329) (pc' := 330) rfl rfl ?_
          refine w_ladd X29 hx (hb hby at_330) (pc' := 331) rfl ?_
          refine w_lstore (Ls' := #[.val (.long x0), .second, .val (.long x1), .second, .val (.long x2), .second, .val (.long x3), .second, .val (.long x4), .second, .val (.int x5), .val (.long v11), .second, .val (.long v12), .second, .val (.int zz), .val (.long gv), .second, .val (.int (1 : Int32)), .val (.long mk), .second, .val (.long uu), .second, .val (.long vv), .second, .val (.long mu), .second, .val (.long mv), .second, .val (.long g2), .second, .val (.long dd), .second, .val (.long (((jlushr x2 (20 : Int32)) &&& (1048575 : Int64)) + (1 : Int64))), .second, .unset, .unset, .unset, .unset, .unset, .unset, .unset, .unset, .unset, .unset]) X29 hx (hb hby at_331) (pc' := 333) rfl rfl ?_
          obtain ⟨xx, hxx⟩ : ∃ z : Int64, z = (((jlushr x2 (20 : Int32)) &&& (1048575 : Int64)) + (1 : Int64)) := ⟨_, rfl⟩
          rw [← hxx]
          refine w_lload X29 hx (hb hby at_333) (pc' := 335) rfl rfl ?_
          refine w_bipush (v := 40) X29 hx (hb hby at_335) (pc' := 337) rfl rfl ?_
          refine w_lushr X29 hx (hb hby at_337) (pc' := 338) rfl ?_
          refine w_ldc2 X29 hx hZ hown (hw _ (List.mem_of_getElem? (i := 6) rfl)) (hb hby at_338) (pc' := 341) rfl ?_
          refine w_land X29 hx (hb hby at_341) (pc' := 342) rfl ?_
          refine w_lstore (Ls' := #[.val (.long x0), .second, .val (.long x1), .second, .val (.long x2), .second, .val (.long x3), .second, .val (.long x4), .second, .val (.int x5), .val (.long v11), .second, .val (.long v12), .second, .val (.int zz), .val (.long gv), .second, .val (.int (1 : Int32)), .val (.long mk), .second, .val (.long uu), .second, .val (.long vv), .second, .val (.long mu), .second, .val (.long mv), .second, .val (.long g2), .second, .val (.long dd), .second, .val (.long xx), .second, .val (.long ((jlushr x2 (40 : Int32)) &&& (1048575 : Int64))), .second, .unset, .unset, .unset, .unset, .unset, .unset, .unset, .unset]) X29 hx (hb hby at_342) (pc' := 344) rfl rfl ?_
          obtain ⟨kk, hkk⟩ : ∃ z : Int64, z = ((jlushr x2 (40 : Int32)) &&& (1048575 : Int64)) := ⟨_, rfl⟩
          rw [← hkk]
          refine w_lload X29 hx (hb hby at_344) (pc' := 346) rfl rfl ?_
          refine w_lload X29 hx (hb hby at_346) (pc' := 348) rfl rfl ?_
          refine w_lmul X29 hx (hb hby at_348) (pc' := 349) rfl ?_
          refine w_lconst (v := 1) X29 hx (hb hby at_349) (pc' := 350) rfl rfl ?_
          refine w_ladd X29 hx (hb hby at_350) (pc' := 351) rfl ?_
          refine w_lstore (Ls' := #[.val (.long x0), .second, .val (.long x1), .second, .val (.long x2), .second, .val (.long x3), .second, .val (.long x4), .second, .val (.int x5), .val (.long v11), .second, .val (.long v12), .second, .val (.int zz), .val (.long gv), .second, .val (.int (1 : Int32)), .val (.long mk), .second, .val (.long uu), .second, .val (.long vv), .second, .val (.long mu), .second, .val (.long mv), .second, .val (.long g2), .second, .val (.long dd), .second, .val (.long xx), .second, .val (.long kk), .second, .val (.long ((kk * xx) + (1 : Int64))), .second, .unset, .unset, .unset, .unset, .unset, .unset]) X29 hx (hb hby at_351) (pc' := 353) rfl rfl ?_
          obtain ⟨yy, hyy⟩ : ∃ z : Int64, z = ((kk * xx) + (1 : Int64)) := ⟨_, rfl⟩
          rw [← hyy]
          refine w_lload X29 hx (hb hby at_353) (pc' := 355) rfl rfl ?_
          refine w_lload X29 hx (hb hby at_355) (pc' := 357) rfl rfl ?_
          refine w_lmul X29 hx (hb hby at_357) (pc' := 358) rfl ?_
          refine w_lstore (Ls' := #[.val (.long x0), .second, .val (.long x1), .second, .val (.long x2), .second, .val (.long x3), .second, .val (.long x4), .second, .val (.int x5), .val (.long v11), .second, .val (.long v12), .second, .val (.int zz), .val (.long gv), .second, .val (.int (1 : Int32)), .val (.long mk), .second, .val (.long uu), .second, .val (.long vv), .second, .val (.long mu), .second, .val (.long mv), .second, .val (.long g2), .second, .val (.long dd), .second, .val (.long xx), .second, .val (.long kk), .second, .val (.long yy), .second, .val (.long (dd * xx)), .second, .unset, .unset, .unset, .unset]) X29 hx (hb hby at_358) (pc' := 360) rfl rfl ?_
          obtain ⟨cc, hcc⟩ : ∃ z : Int64, z = (dd * xx) := ⟨_, rfl⟩
          rw [← hcc]
          refine w_lload X29 hx (hb hby at_360) (pc' := 362) rfl rfl ?_
          refine w_lload X29 hx (hb hby at_362) (pc' := 364) rfl rfl ?_
          refine w_lmul X29 hx (hb hby at_364) (pc' := 365) rfl ?_
          refine w_lstore (Ls' := #[.val (.long x0), .second, .val (.long x1), .second, .val (.long x2), .second, .val (.long x3), .second, .val (.long x4), .second, .val (.int x5), .val (.long v11), .second, .val (.long v12), .second, .val (.int zz), .val (.long gv), .second, .val (.int (1 : Int32)), .val (.long mk), .second, .val (.long uu), .second, .val (.long vv), .second, .val (.long mu), .second, .val (.long mv), .second, .val (.long g2), .second, .val (.long dd), .second, .val (.long xx), .second, .val (.long kk), .second, .val (.long yy), .second, .val (.long cc), .second, .val (.long (dd * yy)), .second, .unset, .unset]) X29 hx (hb hby at_365) (pc' := 367) rfl rfl ?_
          obtain ⟨ee, hee⟩ : ∃ z : Int64, z = (dd * yy) := ⟨_, rfl⟩
          rw [← hee]
          refine w_iload X29 hx (hb hby at_367) (pc' := 369) rfl rfl ?_
          refine w_iconst (v := 4) X29 hx (hb hby at_369) (pc' := 370) rfl rfl ?_
          refine w_iand X29 hx (hb hby at_370) (pc' := 371) rfl ?_
          refine w_if_eq X29 hx (hb hby at_371) (pf := 374) (pt := 386) rfl (by decide) (by decide) (fun hc371 => ?_) (fun hc371 => ?_)
          · refine w_lload X29 hx (hb hby at_386) (pc' := 388) rfl rfl ?_
            refine w_lload X29 hx (hb hby at_388) (pc' := 390) rfl rfl ?_
            refine w_callS (argsL := [(.long ee), (.long cc)]) (rest := []) X29 hx hZ hown e29 (rm1 l Z a0 hw ee cc h0 n0 (own_s3p hdd hxx hkk hyy hcc hee).2 (own_s3p hdd hxx hkk hyy hcc hee).1) (hw _ (List.mem_of_getElem? (i := 1) rfl)) (hw _ (List.mem_of_getElem? (i := 2) rfl)) (hw _ (List.mem_of_getElem? (i := 3) rfl)) (hw _ (List.mem_of_getElem? (i := 4) rfl)) (by decide) (by decide) (W := 0) (by decide) (by decide) (by decide) (by rw [hml]; rfl) (lenOf pd_2 rfl) (Nat.le_refl _) rfl (hb hby at_390) (pc' := 393) rfl (fun T32 L32 v32 X32 hQ32 => ?_)
            obtain ⟨rfl, N32q, e32⟩ := hQ32
            have N32 := Fr.app N29 N32q
            have X32 : Stand p l e room_1 s m _ below meth c T32 _ 0 0 := X32
            show Go p e below s room_1.cells room_1.slots (QL (some (.int 1)) n0) T32 (mkF m 393 #[.val (.long x0), .second, .val (.long x1), .second, .val (.long x2), .second, .val (.long x3), .second, .val (.long x4), .second, .val (.int x5), .val (.long v11), .second, .val (.long v12), .second, .val (.int zz), .val (.long gv), .second, .val (.int (1 : Int32)), .val (.long mk), .second, .val (.long uu), .second, .val (.long vv), .second, .val (.long mu), .second, .val (.long mv), .second, .val (.long g2), .second, .val (.long dd), .second, .val (.long xx), .second, .val (.long kk), .second, .val (.long yy), .second, .val (.long cc), .second, .val (.long ee), .second, .unset, .unset] [(.long (own_gcd ee cc))])
            refine w_lstore (Ls' := #[.val (.long x0), .second, .val (.long x1), .second, .val (.long x2), .second, .val (.long x3), .second, .val (.long x4), .second, .val (.int x5), .val (.long v11), .second, .val (.long v12), .second, .val (.int zz), .val (.long gv), .second, .val (.int (1 : Int32)), .val (.long mk), .second, .val (.long uu), .second, .val (.long vv), .second, .val (.long mu), .second, .val (.long mv), .second, .val (.long g2), .second, .val (.long dd), .second, .val (.long xx), .second, .val (.long kk), .second, .val (.long yy), .second, .val (.long cc), .second, .val (.long ee), .second, .val (.long (own_gcd ee cc)), .second]) X32 hx (hb hby at_393) (pc' := 395) rfl rfl ?_
            obtain ⟨hh, hhh⟩ : ∃ z : Int64, z = (own_gcd ee cc) := ⟨_, rfl⟩
            rw [← hhh]
            refine w_iload X32 hx (hb hby at_395) (pc' := 397) rfl rfl ?_
            have hf397 : ¬ ((1 : Int32) = (0 : Int32)) := (by decide)
            refine w_if_eq X32 hx (hb hby at_397) (pf := 400) (pt := 412) rfl (by decide) (by decide) (fun hc => absurd hc hf397) (fun hc397 => ?_)
            refine w_lload X32 hx (hb hby at_400) (pc' := 402) rfl rfl ?_
            refine w_lload X32 hx (hb hby at_402) (pc' := 404) rfl rfl ?_
            refine w_lcmp X32 hx (hb hby at_404) (pc' := 405) rfl ?_
            have hf405 : hh = dd := own_s3d hdd hxx hkk hyy hcc hee (by first | exact Or.inl hhh | exact Or.inr hhh)
            refine w_ifL_ne X32 hx (hb hby at_405) (pf := 408) (pt := 412) rfl (by decide) (by decide) (fun hc => absurd hf405 hc) (fun hc405 => ?_)
            refine w_iconst (v := 1) X32 hx (hb hby at_408) (pc' := 409) rfl rfl ?_
            refine w_goto X32 hx (hb hby at_409) (pc' := 413) (by decide) (by decide) ?_
            refine w_istore (Ls' := #[.val (.long x0), .second, .val (.long x1), .second, .val (.long x2), .second, .val (.long x3), .second, .val (.long x4), .second, .val (.int x5), .val (.long v11), .second, .val (.long v12), .second, .val (.int zz), .val (.long gv), .second, .val (.int (1 : Int32)), .val (.long mk), .second, .val (.long uu), .second, .val (.long vv), .second, .val (.long mu), .second, .val (.long mv), .second, .val (.long g2), .second, .val (.long dd), .second, .val (.long xx), .second, .val (.long kk), .second, .val (.long yy), .second, .val (.long cc), .second, .val (.long ee), .second, .val (.long hh), .second]) X32 hx (hb hby at_413) (pc' := 415) rfl rfl ?_
            refine w_iload X32 hx (hb hby at_415) (pc' := 417) rfl rfl ?_
            exact w_retZ X32 hx hret hlk (hb hby at_417) (by decide) (by decide) ⟨rfl, N32⟩
          · refine w_lload X29 hx (hb hby at_374) (pc' := 376) rfl rfl ?_
            refine w_lload X29 hx (hb hby at_376) (pc' := 378) rfl rfl ?_
            refine w_callS (argsL := [(.long cc), (.long ee)]) (rest := []) X29 hx hZ hown e29 (rm1 l Z a0 hw cc ee h0 n0 (own_s3p hdd hxx hkk hyy hcc hee).1 (own_s3p hdd hxx hkk hyy hcc hee).2) (hw _ (List.mem_of_getElem? (i := 1) rfl)) (hw _ (List.mem_of_getElem? (i := 2) rfl)) (hw _ (List.mem_of_getElem? (i := 3) rfl)) (hw _ (List.mem_of_getElem? (i := 4) rfl)) (by decide) (by decide) (W := 0) (by decide) (by decide) (by decide) (by rw [hml]; rfl) (lenOf pd_2 rfl) (Nat.le_refl _) rfl (hb hby at_378) (pc' := 381) rfl (fun T33 L33 v33 X33 hQ33 => ?_)
            obtain ⟨rfl, N33q, e33⟩ := hQ33
            have N33 := Fr.app N29 N33q
            have X33 : Stand p l e room_1 s m _ below meth c T33 _ 0 0 := X33
            show Go p e below s room_1.cells room_1.slots (QL (some (.int 1)) n0) T33 (mkF m 381 #[.val (.long x0), .second, .val (.long x1), .second, .val (.long x2), .second, .val (.long x3), .second, .val (.long x4), .second, .val (.int x5), .val (.long v11), .second, .val (.long v12), .second, .val (.int zz), .val (.long gv), .second, .val (.int (1 : Int32)), .val (.long mk), .second, .val (.long uu), .second, .val (.long vv), .second, .val (.long mu), .second, .val (.long mv), .second, .val (.long g2), .second, .val (.long dd), .second, .val (.long xx), .second, .val (.long kk), .second, .val (.long yy), .second, .val (.long cc), .second, .val (.long ee), .second, .unset, .unset] [(.long (own_gcd cc ee))])
            refine w_lstore (Ls' := #[.val (.long x0), .second, .val (.long x1), .second, .val (.long x2), .second, .val (.long x3), .second, .val (.long x4), .second, .val (.int x5), .val (.long v11), .second, .val (.long v12), .second, .val (.int zz), .val (.long gv), .second, .val (.int (1 : Int32)), .val (.long mk), .second, .val (.long uu), .second, .val (.long vv), .second, .val (.long mu), .second, .val (.long mv), .second, .val (.long g2), .second, .val (.long dd), .second, .val (.long xx), .second, .val (.long kk), .second, .val (.long yy), .second, .val (.long cc), .second, .val (.long ee), .second, .val (.long (own_gcd cc ee)), .second]) X33 hx (hb hby at_381) (pc' := 383) rfl rfl ?_
            obtain ⟨hh, hhh⟩ : ∃ z : Int64, z = (own_gcd cc ee) := ⟨_, rfl⟩
            rw [← hhh]
            refine w_goto X33 hx (hb hby at_383) (pc' := 395) (by decide) (by decide) ?_
            refine w_iload X33 hx (hb hby at_395) (pc' := 397) rfl rfl ?_
            have hf397 : ¬ ((1 : Int32) = (0 : Int32)) := (by decide)
            refine w_if_eq X33 hx (hb hby at_397) (pf := 400) (pt := 412) rfl (by decide) (by decide) (fun hc => absurd hc hf397) (fun hc397 => ?_)
            refine w_lload X33 hx (hb hby at_400) (pc' := 402) rfl rfl ?_
            refine w_lload X33 hx (hb hby at_402) (pc' := 404) rfl rfl ?_
            refine w_lcmp X33 hx (hb hby at_404) (pc' := 405) rfl ?_
            have hf405 : hh = dd := own_s3d hdd hxx hkk hyy hcc hee (by first | exact Or.inl hhh | exact Or.inr hhh)
            refine w_ifL_ne X33 hx (hb hby at_405) (pf := 408) (pt := 412) rfl (by decide) (by decide) (fun hc => absurd hf405 hc) (fun hc405 => ?_)
            refine w_iconst (v := 1) X33 hx (hb hby at_408) (pc' := 409) rfl rfl ?_
            refine w_goto X33 hx (hb hby at_409) (pc' := 413) (by decide) (by decide) ?_
            refine w_istore (Ls' := #[.val (.long x0), .second, .val (.long x1), .second, .val (.long x2), .second, .val (.long x3), .second, .val (.long x4), .second, .val (.int x5), .val (.long v11), .second, .val (.long v12), .second, .val (.int zz), .val (.long gv), .second, .val (.int (1 : Int32)), .val (.long mk), .second, .val (.long uu), .second, .val (.long vv), .second, .val (.long mu), .second, .val (.long mv), .second, .val (.long g2), .second, .val (.long dd), .second, .val (.long xx), .second, .val (.long kk), .second, .val (.long yy), .second, .val (.long cc), .second, .val (.long ee), .second, .val (.long hh), .second]) X33 hx (hb hby at_413) (pc' := 415) rfl rfl ?_
            refine w_iload X33 hx (hb hby at_415) (pc' := 417) rfl rfl ?_
            exact w_retZ X33 hx hret hlk (hb hby at_417) (by decide) (by decide) ⟨rfl, N33⟩
        · refine w_iload X29 hx (hb hby at_239) (pc' := 241) rfl rfl ?_
          have hf241 : ¬ ((1 : Int32) = (0 : Int32)) := (by decide)
          refine w_if_eq X29 hx (hb hby at_241) (pf := 244) (pt := 255) rfl (by decide) (by decide) (fun hc => absurd hc hf241) (fun hc241 => ?_)
          refine w_lload X29 hx (hb hby at_244) (pc' := 246) rfl rfl ?_
          refine w_lconst (v := 0) X29 hx (hb hby at_246) (pc' := 247) rfl rfl ?_
          refine w_lcmp X29 hx (hb hby at_247) (pc' := 248) rfl ?_
          have hf248 : g2 = (0 : Int64) := (own_a0 (own_s2p hmk huu hvv hmu hmv).2.1 hc229 hg2).trans hc236
          refine w_ifL_ne X29 hx (hb hby at_248) (pf := 251) (pt := 255) rfl (by decide) (by decide) (fun hc => absurd hf248 hc) (fun hc248 => ?_)
          refine w_iconst (v := 1) X29 hx (hb hby at_251) (pc' := 252) rfl rfl ?_
          refine w_goto X29 hx (hb hby at_252) (pc' := 256) (by decide) (by decide) ?_
          refine w_istore (Ls' := #[.val (.long x0), .second, .val (.long x1), .second, .val (.long x2), .second, .val (.long x3), .second, .val (.long x4), .second, .val (.int x5), .val (.long v11), .second, .val (.long v12), .second, .val (.int zz), .val (.long gv), .second, .val (.int (1 : Int32)), .val (.long mk), .second, .val (.long uu), .second, .val (.long vv), .second, .val (.long mu), .second, .val (.long mv), .second, .val (.long g2), .second, .unset, .unset, .unset, .unset, .unset, .unset, .unset, .unset, .unset, .unset, .unset, .unset, .unset, .unset]) X29 hx (hb hby at_256) (pc' := 258) rfl rfl ?_
          refine w_goto X29 hx (hb hby at_258) (pc' := 310) (by decide) (by decide) ?_
          refine w_lload X29 hx (hb hby at_310) (pc' := 312) rfl rfl ?_
          refine w_ldc2 X29 hx hZ hown (hw _ (List.mem_of_getElem? (i := 6) rfl)) (hb hby at_312) (pc' := 315) rfl ?_
          refine w_land X29 hx (hb hby at_315) (pc' := 316) rfl ?_
          refine w_lconst (v := 1) X29 hx (hb hby at_316) (pc' := 317) rfl rfl ?_
          refine w_ladd X29 hx (hb hby at_317) (pc' := 318) rfl ?_
          refine w_lstore (Ls' := #[.val (.long x0), .second, .val (.long x1), .second, .val (.long x2), .second, .val (.long x3), .second, .val (.long x4), .second, .val (.int x5), .val (.long v11), .second, .val (.long v12), .second, .val (.int zz), .val (.long gv), .second, .val (.int (1 : Int32)), .val (.long mk), .second, .val (.long uu), .second, .val (.long vv), .second, .val (.long mu), .second, .val (.long mv), .second, .val (.long g2), .second, .val (.long ((x2 &&& (1048575 : Int64)) + (1 : Int64))), .second, .unset, .unset, .unset, .unset, .unset, .unset, .unset, .unset, .unset, .unset, .unset, .unset]) X29 hx (hb hby at_318) (pc' := 320) rfl rfl ?_
          obtain ⟨dd, hdd⟩ : ∃ z : Int64, z = ((x2 &&& (1048575 : Int64)) + (1 : Int64)) := ⟨_, rfl⟩
          rw [← hdd]
          refine w_lload X29 hx (hb hby at_320) (pc' := 322) rfl rfl ?_
          refine w_bipush (v := 20) X29 hx (hb hby at_322) (pc' := 324) rfl rfl ?_
          refine w_lushr X29 hx (hb hby at_324) (pc' := 325) rfl ?_
          refine w_ldc2 X29 hx hZ hown (hw _ (List.mem_of_getElem? (i := 6) rfl)) (hb hby at_325) (pc' := 328) rfl ?_
          refine w_land X29 hx (hb hby at_328) (pc' := 329) rfl ?_
          refine w_lconst (v := 1) X29 hx (hb hby at_329) (pc' := 330) rfl rfl ?_
          refine w_ladd X29 hx (hb hby at_330) (pc' := 331) rfl ?_
          refine w_lstore (Ls' := #[.val (.long x0), .second, .val (.long x1), .second, .val (.long x2), .second, .val (.long x3), .second, .val (.long x4), .second, .val (.int x5), .val (.long v11), .second, .val (.long v12), .second, .val (.int zz), .val (.long gv), .second, .val (.int (1 : Int32)), .val (.long mk), .second, .val (.long uu), .second, .val (.long vv), .second, .val (.long mu), .second, .val (.long mv), .second, .val (.long g2), .second, .val (.long dd), .second, .val (.long (((jlushr x2 (20 : Int32)) &&& (1048575 : Int64)) + (1 : Int64))), .second, .unset, .unset, .unset, .unset, .unset, .unset, .unset, .unset, .unset, .unset]) X29 hx (hb hby at_331) (pc' := 333) rfl rfl ?_
          obtain ⟨xx, hxx⟩ : ∃ z : Int64, z = (((jlushr x2 (20 : Int32)) &&& (1048575 : Int64)) + (1 : Int64)) := ⟨_, rfl⟩
          rw [← hxx]
          refine w_lload X29 hx (hb hby at_333) (pc' := 335) rfl rfl ?_
          refine w_bipush (v := 40) X29 hx (hb hby at_335) (pc' := 337) rfl rfl ?_
          refine w_lushr X29 hx (hb hby at_337) (pc' := 338) rfl ?_
          refine w_ldc2 X29 hx hZ hown (hw _ (List.mem_of_getElem? (i := 6) rfl)) (hb hby at_338) (pc' := 341) rfl ?_
          refine w_land X29 hx (hb hby at_341) (pc' := 342) rfl ?_
          refine w_lstore (Ls' := #[.val (.long x0), .second, .val (.long x1), .second, .val (.long x2), .second, .val (.long x3), .second, .val (.long x4), .second, .val (.int x5), .val (.long v11), .second, .val (.long v12), .second, .val (.int zz), .val (.long gv), .second, .val (.int (1 : Int32)), .val (.long mk), .second, .val (.long uu), .second, .val (.long vv), .second, .val (.long mu), .second, .val (.long mv), .second, .val (.long g2), .second, .val (.long dd), .second, .val (.long xx), .second, .val (.long ((jlushr x2 (40 : Int32)) &&& (1048575 : Int64))), .second, .unset, .unset, .unset, .unset, .unset, .unset, .unset, .unset]) X29 hx (hb hby at_342) (pc' := 344) rfl rfl ?_
          obtain ⟨kk, hkk⟩ : ∃ z : Int64, z = ((jlushr x2 (40 : Int32)) &&& (1048575 : Int64)) := ⟨_, rfl⟩
          rw [← hkk]
          refine w_lload X29 hx (hb hby at_344) (pc' := 346) rfl rfl ?_
          refine w_lload X29 hx (hb hby at_346) (pc' := 348) rfl rfl ?_
          refine w_lmul X29 hx (hb hby at_348) (pc' := 349) rfl ?_
          refine w_lconst (v := 1) X29 hx (hb hby at_349) (pc' := 350) rfl rfl ?_
          refine w_ladd X29 hx (hb hby at_350) (pc' := 351) rfl ?_
          refine w_lstore (Ls' := #[.val (.long x0), .second, .val (.long x1), .second, .val (.long x2), .second, .val (.long x3), .second, .val (.long x4), .second, .val (.int x5), .val (.long v11), .second, .val (.long v12), .second, .val (.int zz), .val (.long gv), .second, .val (.int (1 : Int32)), .val (.long mk), .second, .val (.long uu), .second, .val (.long vv), .second, .val (.long mu), .second, .val (.long mv), .second, .val (.long g2), .second, .val (.long dd), .second, .val (.long xx), .second, .val (.long kk), .second, .val (.long ((kk * xx) + (1 : Int64))), .second, .unset, .unset, .unset, .unset, .unset, .unset]) X29 hx (hb hby at_351) (pc' := 353) rfl rfl ?_
          obtain ⟨yy, hyy⟩ : ∃ z : Int64, z = ((kk * xx) + (1 : Int64)) := ⟨_, rfl⟩
          rw [← hyy]
          refine w_lload X29 hx (hb hby at_353) (pc' := 355) rfl rfl ?_
          refine w_lload X29 hx (hb hby at_355) (pc' := 357) rfl rfl ?_
          refine w_lmul X29 hx (hb hby at_357) (pc' := 358) rfl ?_
          refine w_lstore (Ls' := #[.val (.long x0), .second, .val (.long x1), .second, .val (.long x2), .second, .val (.long x3), .second, .val (.long x4), .second, .val (.int x5), .val (.long v11), .second, .val (.long v12), .second, .val (.int zz), .val (.long gv), .second, .val (.int (1 : Int32)), .val (.long mk), .second, .val (.long uu), .second, .val (.long vv), .second, .val (.long mu), .second, .val (.long mv), .second, .val (.long g2), .second, .val (.long dd), .second, .val (.long xx), .second, .val (.long kk), .second, .val (.long yy), .second, .val (.long (dd * xx)), .second, .unset, .unset, .unset, .unset]) X29 hx (hb hby at_358) (pc' := 360) rfl rfl ?_
          obtain ⟨cc, hcc⟩ : ∃ z : Int64, z = (dd * xx) := ⟨_, rfl⟩
          rw [← hcc]
          refine w_lload X29 hx (hb hby at_360) (pc' := 362) rfl rfl ?_
          refine w_lload X29 hx (hb hby at_362) (pc' := 364) rfl rfl ?_
          refine w_lmul X29 hx (hb hby at_364) (pc' := 365) rfl ?_
          refine w_lstore (Ls' := #[.val (.long x0), .second, .val (.long x1), .second, .val (.long x2), .second, .val (.long x3), .second, .val (.long x4), .second, .val (.int x5), .val (.long v11), .second, .val (.long v12), .second, .val (.int zz), .val (.long gv), .second, .val (.int (1 : Int32)), .val (.long mk), .second, .val (.long uu), .second, .val (.long vv), .second, .val (.long mu), .second, .val (.long mv), .second, .val (.long g2), .second, .val (.long dd), .second, .val (.long xx), .second, .val (.long kk), .second, .val (.long yy), .second, .val (.long cc), .second, .val (.long (dd * yy)), .second, .unset, .unset]) X29 hx (hb hby at_365) (pc' := 367) rfl rfl ?_
          obtain ⟨ee, hee⟩ : ∃ z : Int64, z = (dd * yy) := ⟨_, rfl⟩
          rw [← hee]
          refine w_iload X29 hx (hb hby at_367) (pc' := 369) rfl rfl ?_
          refine w_iconst (v := 4) X29 hx (hb hby at_369) (pc' := 370) rfl rfl ?_
          refine w_iand X29 hx (hb hby at_370) (pc' := 371) rfl ?_
          refine w_if_eq X29 hx (hb hby at_371) (pf := 374) (pt := 386) rfl (by decide) (by decide) (fun hc371 => ?_) (fun hc371 => ?_)
          · refine w_lload X29 hx (hb hby at_386) (pc' := 388) rfl rfl ?_
            refine w_lload X29 hx (hb hby at_388) (pc' := 390) rfl rfl ?_
            refine w_callS (argsL := [(.long ee), (.long cc)]) (rest := []) X29 hx hZ hown e29 (rm1 l Z a0 hw ee cc h0 n0 (own_s3p hdd hxx hkk hyy hcc hee).2 (own_s3p hdd hxx hkk hyy hcc hee).1) (hw _ (List.mem_of_getElem? (i := 1) rfl)) (hw _ (List.mem_of_getElem? (i := 2) rfl)) (hw _ (List.mem_of_getElem? (i := 3) rfl)) (hw _ (List.mem_of_getElem? (i := 4) rfl)) (by decide) (by decide) (W := 0) (by decide) (by decide) (by decide) (by rw [hml]; rfl) (lenOf pd_2 rfl) (Nat.le_refl _) rfl (hb hby at_390) (pc' := 393) rfl (fun T34 L34 v34 X34 hQ34 => ?_)
            obtain ⟨rfl, N34q, e34⟩ := hQ34
            have N34 := Fr.app N29 N34q
            have X34 : Stand p l e room_1 s m _ below meth c T34 _ 0 0 := X34
            show Go p e below s room_1.cells room_1.slots (QL (some (.int 1)) n0) T34 (mkF m 393 #[.val (.long x0), .second, .val (.long x1), .second, .val (.long x2), .second, .val (.long x3), .second, .val (.long x4), .second, .val (.int x5), .val (.long v11), .second, .val (.long v12), .second, .val (.int zz), .val (.long gv), .second, .val (.int (1 : Int32)), .val (.long mk), .second, .val (.long uu), .second, .val (.long vv), .second, .val (.long mu), .second, .val (.long mv), .second, .val (.long g2), .second, .val (.long dd), .second, .val (.long xx), .second, .val (.long kk), .second, .val (.long yy), .second, .val (.long cc), .second, .val (.long ee), .second, .unset, .unset] [(.long (own_gcd ee cc))])
            refine w_lstore (Ls' := #[.val (.long x0), .second, .val (.long x1), .second, .val (.long x2), .second, .val (.long x3), .second, .val (.long x4), .second, .val (.int x5), .val (.long v11), .second, .val (.long v12), .second, .val (.int zz), .val (.long gv), .second, .val (.int (1 : Int32)), .val (.long mk), .second, .val (.long uu), .second, .val (.long vv), .second, .val (.long mu), .second, .val (.long mv), .second, .val (.long g2), .second, .val (.long dd), .second, .val (.long xx), .second, .val (.long kk), .second, .val (.long yy), .second, .val (.long cc), .second, .val (.long ee), .second, .val (.long (own_gcd ee cc)), .second]) X34 hx (hb hby at_393) (pc' := 395) rfl rfl ?_
            obtain ⟨hh, hhh⟩ : ∃ z : Int64, z = (own_gcd ee cc) := ⟨_, rfl⟩
            rw [← hhh]
            refine w_iload X34 hx (hb hby at_395) (pc' := 397) rfl rfl ?_
            have hf397 : ¬ ((1 : Int32) = (0 : Int32)) := (by decide)
            refine w_if_eq X34 hx (hb hby at_397) (pf := 400) (pt := 412) rfl (by decide) (by decide) (fun hc => absurd hc hf397) (fun hc397 => ?_)
            refine w_lload X34 hx (hb hby at_400) (pc' := 402) rfl rfl ?_
            refine w_lload X34 hx (hb hby at_402) (pc' := 404) rfl rfl ?_
            refine w_lcmp X34 hx (hb hby at_404) (pc' := 405) rfl ?_
            have hf405 : hh = dd := own_s3d hdd hxx hkk hyy hcc hee (by first | exact Or.inl hhh | exact Or.inr hhh)
            refine w_ifL_ne X34 hx (hb hby at_405) (pf := 408) (pt := 412) rfl (by decide) (by decide) (fun hc => absurd hf405 hc) (fun hc405 => ?_)
            refine w_iconst (v := 1) X34 hx (hb hby at_408) (pc' := 409) rfl rfl ?_
            refine w_goto X34 hx (hb hby at_409) (pc' := 413) (by decide) (by decide) ?_
            refine w_istore (Ls' := #[.val (.long x0), .second, .val (.long x1), .second, .val (.long x2), .second, .val (.long x3), .second, .val (.long x4), .second, .val (.int x5), .val (.long v11), .second, .val (.long v12), .second, .val (.int zz), .val (.long gv), .second, .val (.int (1 : Int32)), .val (.long mk), .second, .val (.long uu), .second, .val (.long vv), .second, .val (.long mu), .second, .val (.long mv), .second, .val (.long g2), .second, .val (.long dd), .second, .val (.long xx), .second, .val (.long kk), .second, .val (.long yy), .second, .val (.long cc), .second, .val (.long ee), .second, .val (.long hh), .second]) X34 hx (hb hby at_413) (pc' := 415) rfl rfl ?_
            refine w_iload X34 hx (hb hby at_415) (pc' := 417) rfl rfl ?_
            exact w_retZ X34 hx hret hlk (hb hby at_417) (by decide) (by decide) ⟨rfl, N34⟩
          · refine w_lload X29 hx (hb hby at_374) (pc' := 376) rfl rfl ?_
            refine w_lload X29 hx (hb hby at_376) (pc' := 378) rfl rfl ?_
            refine w_callS (argsL := [(.long cc), (.long ee)]) (rest := []) X29 hx hZ hown e29 (rm1 l Z a0 hw cc ee h0 n0 (own_s3p hdd hxx hkk hyy hcc hee).1 (own_s3p hdd hxx hkk hyy hcc hee).2) (hw _ (List.mem_of_getElem? (i := 1) rfl)) (hw _ (List.mem_of_getElem? (i := 2) rfl)) (hw _ (List.mem_of_getElem? (i := 3) rfl)) (hw _ (List.mem_of_getElem? (i := 4) rfl)) (by decide) (by decide) (W := 0) (by decide) (by decide) (by decide) (by rw [hml]; rfl) (lenOf pd_2 rfl) (Nat.le_refl _) rfl (hb hby at_378) (pc' := 381) rfl (fun T35 L35 v35 X35 hQ35 => ?_)
            obtain ⟨rfl, N35q, e35⟩ := hQ35
            have N35 := Fr.app N29 N35q
            have X35 : Stand p l e room_1 s m _ below meth c T35 _ 0 0 := X35
            show Go p e below s room_1.cells room_1.slots (QL (some (.int 1)) n0) T35 (mkF m 381 #[.val (.long x0), .second, .val (.long x1), .second, .val (.long x2), .second, .val (.long x3), .second, .val (.long x4), .second, .val (.int x5), .val (.long v11), .second, .val (.long v12), .second, .val (.int zz), .val (.long gv), .second, .val (.int (1 : Int32)), .val (.long mk), .second, .val (.long uu), .second, .val (.long vv), .second, .val (.long mu), .second, .val (.long mv), .second, .val (.long g2), .second, .val (.long dd), .second, .val (.long xx), .second, .val (.long kk), .second, .val (.long yy), .second, .val (.long cc), .second, .val (.long ee), .second, .unset, .unset] [(.long (own_gcd cc ee))])
            refine w_lstore (Ls' := #[.val (.long x0), .second, .val (.long x1), .second, .val (.long x2), .second, .val (.long x3), .second, .val (.long x4), .second, .val (.int x5), .val (.long v11), .second, .val (.long v12), .second, .val (.int zz), .val (.long gv), .second, .val (.int (1 : Int32)), .val (.long mk), .second, .val (.long uu), .second, .val (.long vv), .second, .val (.long mu), .second, .val (.long mv), .second, .val (.long g2), .second, .val (.long dd), .second, .val (.long xx), .second, .val (.long kk), .second, .val (.long yy), .second, .val (.long cc), .second, .val (.long ee), .second, .val (.long (own_gcd cc ee)), .second]) X35 hx (hb hby at_381) (pc' := 383) rfl rfl ?_
            obtain ⟨hh, hhh⟩ : ∃ z : Int64, z = (own_gcd cc ee) := ⟨_, rfl⟩
            rw [← hhh]
            refine w_goto X35 hx (hb hby at_383) (pc' := 395) (by decide) (by decide) ?_
            refine w_iload X35 hx (hb hby at_395) (pc' := 397) rfl rfl ?_
            have hf397 : ¬ ((1 : Int32) = (0 : Int32)) := (by decide)
            refine w_if_eq X35 hx (hb hby at_397) (pf := 400) (pt := 412) rfl (by decide) (by decide) (fun hc => absurd hc hf397) (fun hc397 => ?_)
            refine w_lload X35 hx (hb hby at_400) (pc' := 402) rfl rfl ?_
            refine w_lload X35 hx (hb hby at_402) (pc' := 404) rfl rfl ?_
            refine w_lcmp X35 hx (hb hby at_404) (pc' := 405) rfl ?_
            have hf405 : hh = dd := own_s3d hdd hxx hkk hyy hcc hee (by first | exact Or.inl hhh | exact Or.inr hhh)
            refine w_ifL_ne X35 hx (hb hby at_405) (pf := 408) (pt := 412) rfl (by decide) (by decide) (fun hc => absurd hf405 hc) (fun hc405 => ?_)
            refine w_iconst (v := 1) X35 hx (hb hby at_408) (pc' := 409) rfl rfl ?_
            refine w_goto X35 hx (hb hby at_409) (pc' := 413) (by decide) (by decide) ?_
            refine w_istore (Ls' := #[.val (.long x0), .second, .val (.long x1), .second, .val (.long x2), .second, .val (.long x3), .second, .val (.long x4), .second, .val (.int x5), .val (.long v11), .second, .val (.long v12), .second, .val (.int zz), .val (.long gv), .second, .val (.int (1 : Int32)), .val (.long mk), .second, .val (.long uu), .second, .val (.long vv), .second, .val (.long mu), .second, .val (.long mv), .second, .val (.long g2), .second, .val (.long dd), .second, .val (.long xx), .second, .val (.long kk), .second, .val (.long yy), .second, .val (.long cc), .second, .val (.long ee), .second, .val (.long hh), .second]) X35 hx (hb hby at_413) (pc' := 415) rfl rfl ?_
            refine w_iload X35 hx (hb hby at_415) (pc' := 417) rfl rfl ?_
            exact w_retZ X35 hx hret hlk (hb hby at_417) (by decide) (by decide) ⟨rfl, N35⟩
  refine w_icmp_ne X hx (hb hby at_23) (pf := 26) (pt := 32) rfl (by decide) (by decide) (fun hc23 => ?_) (fun hc23 => ?_)
  · refine w_iload X hx (hb hby at_32) (pc' := 34) rfl rfl ?_
    refine w_iconst (v := 2) X hx (hb hby at_34) (pc' := 35) rfl rfl ?_
    refine w_icmp_ne X hx (hb hby at_35) (pf := 38) (pt := 44) rfl (by decide) (by decide) (fun hc35 => ?_) (fun hc35 => ?_)
    · refine w_iload X hx (hb hby at_44) (pc' := 46) rfl rfl ?_
      refine w_iconst (v := 3) X hx (hb hby at_46) (pc' := 47) rfl rfl ?_
      refine w_icmp_ne X hx (hb hby at_47) (pf := 50) (pt := 56) rfl (by decide) (by decide) (fun hc47 => ?_) (fun hc47 => ?_)
      · exact J56_13 (a1) (b1) (by rw [if_neg (show ¬ (zz = (1 : Int32)) from (by assumption)), if_neg (show ¬ (zz = (2 : Int32)) from (by assumption)), if_neg (show ¬ (zz = (3 : Int32)) from (by assumption))]) (by rw [if_neg (show ¬ (zz = (1 : Int32)) from (by assumption)), if_neg (show ¬ (zz = (2 : Int32)) from (by assumption)), if_neg (show ¬ (zz = (3 : Int32)) from (by assumption))])
      · refine w_lconst (v := 0) X hx (hb hby at_50) (pc' := 51) rfl rfl ?_
        refine w_lstore (Ls' := #[.val (.long x0), .second, .val (.long x1), .second, .val (.long x2), .second, .val (.long x3), .second, .val (.long x4), .second, .val (.int x5), .val (.long (0 : Int64)), .second, .val (.long b1), .second, .val (.int zz), .unset, .unset, .unset, .unset, .unset, .unset, .unset, .unset, .unset, .unset, .unset, .unset, .unset, .unset, .unset, .unset, .unset, .unset, .unset, .unset, .unset, .unset, .unset, .unset, .unset, .unset, .unset, .unset, .unset]) X hx (hb hby at_51) (pc' := 53) rfl rfl ?_
        refine w_lconst (v := 0) X hx (hb hby at_53) (pc' := 54) rfl rfl ?_
        refine w_lstore (Ls' := #[.val (.long x0), .second, .val (.long x1), .second, .val (.long x2), .second, .val (.long x3), .second, .val (.long x4), .second, .val (.int x5), .val (.long (0 : Int64)), .second, .val (.long (0 : Int64)), .second, .val (.int zz), .unset, .unset, .unset, .unset, .unset, .unset, .unset, .unset, .unset, .unset, .unset, .unset, .unset, .unset, .unset, .unset, .unset, .unset, .unset, .unset, .unset, .unset, .unset, .unset, .unset, .unset, .unset, .unset, .unset]) X hx (hb hby at_54) (pc' := 56) rfl rfl ?_
        exact J56_13 ((0 : Int64)) ((0 : Int64)) (by rw [if_neg (show ¬ (zz = (1 : Int32)) from (by assumption)), if_neg (show ¬ (zz = (2 : Int32)) from (by assumption)), if_pos (show zz = (3 : Int32) from (by assumption))]) (by rw [if_neg (show ¬ (zz = (1 : Int32)) from (by assumption)), if_neg (show ¬ (zz = (2 : Int32)) from (by assumption)), if_pos (show zz = (3 : Int32) from (by assumption))])
    · refine w_lconst (v := 0) X hx (hb hby at_38) (pc' := 39) rfl rfl ?_
      refine w_lstore (Ls' := #[.val (.long x0), .second, .val (.long x1), .second, .val (.long x2), .second, .val (.long x3), .second, .val (.long x4), .second, .val (.int x5), .val (.long a1), .second, .val (.long (0 : Int64)), .second, .val (.int zz), .unset, .unset, .unset, .unset, .unset, .unset, .unset, .unset, .unset, .unset, .unset, .unset, .unset, .unset, .unset, .unset, .unset, .unset, .unset, .unset, .unset, .unset, .unset, .unset, .unset, .unset, .unset, .unset, .unset]) X hx (hb hby at_39) (pc' := 41) rfl rfl ?_
      refine w_goto X hx (hb hby at_41) (pc' := 56) (by decide) (by decide) ?_
      exact J56_13 (a1) ((0 : Int64)) (by rw [if_neg (show ¬ (zz = (1 : Int32)) from (by assumption)), if_pos (show zz = (2 : Int32) from (by assumption))]) (by rw [if_neg (show ¬ (zz = (1 : Int32)) from (by assumption)), if_pos (show zz = (2 : Int32) from (by assumption))])
  · refine w_lconst (v := 0) X hx (hb hby at_26) (pc' := 27) rfl rfl ?_
    refine w_lstore (Ls' := #[.val (.long x0), .second, .val (.long x1), .second, .val (.long x2), .second, .val (.long x3), .second, .val (.long x4), .second, .val (.int x5), .val (.long (0 : Int64)), .second, .val (.long b1), .second, .val (.int zz), .unset, .unset, .unset, .unset, .unset, .unset, .unset, .unset, .unset, .unset, .unset, .unset, .unset, .unset, .unset, .unset, .unset, .unset, .unset, .unset, .unset, .unset, .unset, .unset, .unset, .unset, .unset, .unset, .unset]) X hx (hb hby at_27) (pc' := 29) rfl rfl ?_
    refine w_goto X hx (hb hby at_29) (pc' := 56) (by decide) (by decide) ?_
    exact J56_13 ((0 : Int64)) (b1) (by rw [if_pos (show zz = (1 : Int32) from (by assumption))]) (by rw [if_pos (show zz = (1 : Int32) from (by assumption))])
set_option maxRecDepth 65536 in
set_option maxHeartbeats 40000000 in
theorem comes_1 {Post : Tables → Env → Array Value → State → Outcome → State → Prop} (hpost : ∀ tb e args s v u, (limb_1_1.after args s (.returned v) u = true ∧ limb_1_2.after args s (.returned v) u = true ∧ True) → FrameEnd s (.returned v) u (Jvm.fieldLocs frame_1_writes args s ++ Jvm.arrayLocs frame_1_arrays args s ++ Jvm.staticLocs frame_1_statics s) 0 0 → Post tb e args s (.returned v) u) :
    ArmFor flags0 classFile x code maxLocals ret World_1 tables_1 room_1 Calls_1 rest_1 Pre_1 Post := by
  intro l hfl _ _ p e ha hc hk s m args below hf hA hF happ hP
  obtain ⟨hcalls, hrest, hpre⟩ := hP
  obtain ⟨-, -, -, hnamed, -, -, -, hat⟩ := (Spec.applies_iff hf).mp happ
  obtain ⟨hg, hn⟩ := and_e (Cond.before_iff.mp (show (Jvm.Cond.and given_1 narrow_1).before args s = true from hpre))
  obtain ⟨g1, g2⟩ := and_e hg
  obtain ⟨g3, g4⟩ := and_e g2
  obtain ⟨g5, g6⟩ := and_e g4
  obtain ⟨g7, g8⟩ := and_e g6
  obtain ⟨g9, g10⟩ := and_e g8
  obtain ⟨g11, g12⟩ := and_e g10
  obtain ⟨w0, w1, w2, w3, w4, w5, rfl⟩ : ∃ w0 w1 w2 w3 w4 w5 : Value, args = #[w0, w1, w2, w3, w4, w5] := by
    have hs : args.size = 6 := by simpa [Cond.value, given_1] using g1
    obtain ⟨L⟩ := args
    match L, hs with
    | [w0, w1, w2, w3, w4, w5], _ => exact ⟨w0, w1, w2, w3, w4, w5, rfl⟩
  have hw := fun d (hd : d ∈ tables_1) => atoms_spec (ws := Jvm.Cond.code x code maxLocals ret :: tables_1) hat d (List.mem_cons_of_mem _ hd)
  obtain ⟨i0, ei0⟩ := isL_v g3
  obtain rfl : w0 = (.long i0) := Option.some.inj ei0
  obtain ⟨i1, ei1⟩ := isL_v g5
  obtain rfl : w1 = (.long i1) := Option.some.inj ei1
  obtain ⟨i2, ei2⟩ := isL_v g7
  obtain rfl : w2 = (.long i2) := Option.some.inj ei2
  obtain ⟨i3, ei3⟩ := isL_v g9
  obtain rfl : w3 = (.long i3) := Option.some.inj ei3
  obtain ⟨i4, ei4⟩ := isL_v g11
  obtain rfl : w4 = (.long i4) := Option.some.inj ei4
  obtain ⟨i5, ei5⟩ := is_v g12
  obtain rfl : w5 = (.int i5) := Option.some.inj ei5
  have C := rm0 l s _ hw i0 i1 i2 i3 i4 i5 s.heap s.heap.size (Nat.le_refl _)
  obtain ⟨n, o, h1, h2, h3, v, L, rfl, ⟨rfl, N⟩, hq⟩ := C tables_1 p e ha hc hk s m _ below hf ((Spec.applies_iff_loose hf).mp happ).1 ⟨rfl, State.Warmed39.refl s, rfl⟩ trivial
  refine ⟨n, _, h1, h2, h3, hpost _ _ _ _ _ _ ⟨Cond.after_iff.mpr rfl, Cond.after_iff.mpr (eq_i res_at (Term.int_eval (1)) rfl), trivial⟩ ⟨hq.1, hq.2.1, (hq.2.2.sift fun y hy => Or.inr (N y hy)).mono (by decide) (by decide)⟩⟩
theorem main_1_1 : Claimed_1_1 := comes_1 fun _ _ _ _ _ _ h hF => ⟨h.1, hF⟩
theorem main_1_2 : Claimed_1_2 := comes_1 fun _ _ _ _ _ _ h hF => ⟨h.2.1, hF⟩
end Jvm.Pilot.@@N@@
namespace Jvm.Pilot.@@N@@
open Jvm Jvm.ClassFile Sem Op Lib Jvm.Free Jvm.Stand Jvm.Pilot.@@N@@.Jvm.D
/-! MADE BY PROGRAM (witnessworld.py) out of the Statement's table words and the real class files: 16 classes; the members and pool entries that the words name. The judged class is class 1, her method 1. -/
namespace start1
open Jvm.ClassFile
def u (s : String) : CpInfo := .utf8 (stringToUtf16 s)
/-- a pool by its gaps: so many unusable entries, then the entry; so many at the end -/
def gap : Nat → List CpInfo → List CpInfo
  | 0, r => r
  | n + 1, r => .unusable :: gap n r
def poolList (es : List (Nat × CpInfo)) (last : Nat) : List CpInfo := es.foldr (fun e r => gap e.1 (e.2 :: r)) (gap last [])
def pool (es : List (Nat × CpInfo)) (last : Nat) : Array CpInfo := ⟨poolList es last⟩
def fileOf (pool : Array CpInfo) (this : Nat) (attrs : Array Attribute := #[]) (ms : Array MethodInfo := #[]) (fl : Nat := 33) (sup : Nat := 0) (ifs : Array Nat := #[]) (fds : Array FieldInfo := #[]) : ClassFile where
  minorVersion := 0
  majorVersion := 65
  constantPool := pool
  accessFlags := fl
  thisClass := this
  superClass := sup
  interfaces := ifs
  fields := fds
  methods := ms
  attributes := attrs
def plain (name : String) (sup : Option ClassId) : Class where
  name := name
  kind := .ordinary
  loader := none
  accessFlags := 33
  super := sup
  interfaces := #[]
  cf := none
  fields := #[]
  methods := #[]
  instanceTypes := #[]
  staticTypes := #[]
  resolved := #[]
  callSites := []
  init := .initialized
  statics := none
  mirror := none

def pool0 : Array CpInfo := pool [(5, u "<init>"), (0, u "()V"), (1, .class_ 10), (1, u "java/lang/Object")] 113

def k0m0 : Method := { name := "<init>", desc := "()V", sig := { parameters := [], returnType := none }, accessFlags := 1, code := none }
/-- java/lang/Object -/
def k0 : Class := { plain "java/lang/Object" none with
  accessFlags := 33
  interfaces := #[]
  cf := some (fileOf pool0 8 #[] #[{ accessFlags := 1, nameIndex := 5, descriptorIndex := 6, attributes := #[] }] 33 0 #[] #[])
  fields := #[]
  methods := #[k0m0]
  instanceTypes := #[]
  staticTypes := #[]
  resolved := Array.replicate 124 none
  statics := none }

def pool1 : Array CpInfo := pool [(2, .class_ 4), (1, u "java/lang/Object"), (0, u "<init>"), (0, u "()V"), (2, .long 9223372036854775807), (1, .methodref 12 13), (0, .class_ 14), (0, .nameAndType 15 16), (0, u "com/example/curves_to_bounds/curvestobounds/Gcd"), (0, u "of"), (0, u "(JJ)J"), (0, .long 2147483647), (1, .long 1048575), (1, .class_ 22), (0, u "com/example/curves_to_bounds/curvestobounds/GcdOfPinLaw"), (2, u "law"), (0, u "(JJJJJI)Z")] 3

def k1m0 : Method := { name := "<init>", desc := "()V", sig := { parameters := [], returnType := none }, accessFlags := 2, code := none }
def k1c1 : Code := { maxStack := 6, maxLocals := 45, code := code, exceptionTable := #[], attributes := #[] }
def k1m1 : Method := { name := "law", desc := "(JJJJJI)Z", sig := { parameters := [.long, .long, .long, .long, .long, .int], returnType := some .boolean }, accessFlags := 9, code := some k1c1 }
/-- com/example/curves_to_bounds/curvestobounds/GcdOfPinLaw -/
def k1 : Class := { plain "com/example/curves_to_bounds/curvestobounds/GcdOfPinLaw" (some 0) with
  accessFlags := 49
  interfaces := #[]
  cf := some (fileOf pool1 21 #[] #[{ accessFlags := 2, nameIndex := 5, descriptorIndex := 6, attributes := #[] }, { accessFlags := 9, nameIndex := 25, descriptorIndex := 26, attributes := #[] }] 49 2 #[] #[])
  fields := #[]
  methods := #[k1m0, k1m1]
  instanceTypes := #[]
  staticTypes := #[]
  resolved := Array.replicate 30 none
  statics := none }

def pool2 : Array CpInfo := pool [(1, .class_ 2), (0, u "java/lang/Long"), (1, .class_ 6), (1, u "java/lang/Object"), (0, u "<init>"), (0, u "()V"), (9, .methodref 1 19), (0, .nameAndType 20 21), (0, u "numberOfTrailingZeros"), (0, u "(J)I"), (0, .methodref 23 24), (0, .class_ 25), (0, .nameAndType 26 27), (0, u "java/lang/Math"), (0, u "min"), (0, u "(JJ)J"), (0, .methodref 23 29), (0, .nameAndType 30 31), (0, u "abs"), (0, u "(J)J"), (10, .class_ 44), (1, u "com/example/curves_to_bounds/curvestobounds/Gcd"), (9, u "of"), (102, u "TWO_WORDS"), (0, u "I"), (2, u "LEADING_BITS")] 23

def k2m0 : Method := { name := "<init>", desc := "()V", sig := { parameters := [], returnType := none }, accessFlags := 2, code := none }
def k2c1 : Code := { maxStack := 6, maxLocals := 11, code := prog_24_method_2_code, exceptionTable := #[], attributes := #[] }
def k2m1 : Method := { name := "of", desc := "(JJ)J", sig := { parameters := [.long, .long], returnType := some .long }, accessFlags := 8, code := some k2c1 }
/-- com/example/curves_to_bounds/curvestobounds/Gcd -/
def k2 : Class := { plain "com/example/curves_to_bounds/curvestobounds/Gcd" (some 0) with
  accessFlags := 32
  interfaces := #[]
  cf := some (fileOf pool2 42 #[] #[{ accessFlags := 2, nameIndex := 7, descriptorIndex := 8, attributes := #[] }, { accessFlags := 8, nameIndex := 54, descriptorIndex := 27, attributes := #[] }] 32 4 #[] #[{ accessFlags := 26, nameIndex := 157, descriptorIndex := 158, attributes := #[] }, { accessFlags := 26, nameIndex := 161, descriptorIndex := 158, attributes := #[] }])
  fields := #[{ name := "TWO_WORDS", type := .int, accessFlags := 26, slot := 0, constantValue := 0 }, { name := "LEADING_BITS", type := .int, accessFlags := 26, slot := 1, constantValue := 0 }]
  methods := #[k2m0, k2m1]
  instanceTypes := #[]
  staticTypes := #[.int, .int]
  resolved := Array.replicate 185 none
  statics := none }

def pool3 : Array CpInfo := pool [(1, .class_ 2), (0, u "java/io/Serializable"), (0, .class_ 4), (0, u "java/lang/Object")] 2

/-- java/io/Serializable -/
def k3 : Class := { plain "java/io/Serializable" (some 0) with
  accessFlags := 1537
  interfaces := #[]
  cf := some (fileOf pool3 1 #[] #[] 1537 3 #[] #[])
  fields := #[]
  methods := #[]
  instanceTypes := #[]
  staticTypes := #[]
  resolved := Array.replicate 7 none
  statics := none }

def pool4 : Array CpInfo := pool [(2, .class_ 4), (1, u "java/lang/Object"), (0, u "<init>"), (0, u "()V"), (1, .class_ 10), (1, u "java/lang/Number"), (2, .class_ 14), (0, u "java/io/Serializable"), (0, u "serialVersionUID"), (0, u "J")] 20

def k4m0 : Method := { name := "<init>", desc := "()V", sig := { parameters := [], returnType := none }, accessFlags := 1, code := none }
/-- java/lang/Number -/
def k4 : Class := { plain "java/lang/Number" (some 0) with
  accessFlags := 1057
  interfaces := #[3]
  cf := some (fileOf pool4 8 #[] #[{ accessFlags := 1, nameIndex := 5, descriptorIndex := 6, attributes := #[] }] 1057 2 #[13] #[{ accessFlags := 26, nameIndex := 15, descriptorIndex := 16, attributes := #[] }])
  fields := #[{ name := "serialVersionUID", type := .long, accessFlags := 26, slot := 0, constantValue := 0 }]
  methods := #[k4m0]
  instanceTypes := #[]
  staticTypes := #[.long]
  resolved := Array.replicate 37 none
  statics := none }

def pool5 : Array CpInfo := pool [(1, .class_ 2), (0, u "java/lang/Comparable"), (0, .class_ 4), (0, u "java/lang/Object")] 7

/-- java/lang/Comparable -/
def k5 : Class := { plain "java/lang/Comparable" (some 0) with
  accessFlags := 1537
  interfaces := #[]
  cf := some (fileOf pool5 1 #[] #[] 1537 3 #[] #[])
  fields := #[]
  methods := #[]
  instanceTypes := #[]
  staticTypes := #[]
  resolved := Array.replicate 12 none
  statics := none }

def pool6 : Array CpInfo := pool [(1, .class_ 2), (0, u "java/lang/constant/Constable"), (0, .class_ 4), (0, u "java/lang/Object")] 6

/-- java/lang/constant/Constable -/
def k6 : Class := { plain "java/lang/constant/Constable" (some 0) with
  accessFlags := 1537
  interfaces := #[]
  cf := some (fileOf pool6 1 #[] #[] 1537 3 #[] #[])
  fields := #[]
  methods := #[]
  instanceTypes := #[]
  staticTypes := #[]
  resolved := Array.replicate 11 none
  statics := none }

def pool7 : Array CpInfo := pool [(1, .class_ 2), (0, u "java/lang/constant/ConstantDesc"), (0, .class_ 4), (0, u "java/lang/Object")] 32

/-- java/lang/constant/ConstantDesc -/
def k7 : Class := { plain "java/lang/constant/ConstantDesc" (some 0) with
  accessFlags := 1537
  interfaces := #[]
  cf := some (fileOf pool7 1 #[] #[] 1537 3 #[] #[])
  fields := #[]
  methods := #[]
  instanceTypes := #[]
  staticTypes := #[]
  resolved := Array.replicate 37 none
  statics := none }

def pool8 : Array CpInfo := pool [(1, .class_ 2), (0, u "java/lang/Long"), (15, .class_ 20), (1, u "java/lang/Integer"), (80, u "(J)I"), (133, .class_ 237), (1, u "java/lang/Long$LongCache"), (33, .class_ 272), (0, u "java/lang/Number"), (2, u "value"), (0, u "J"), (33, u "(I)I"), (0, .methodref 18 312), (0, .nameAndType 313 310), (0, u "numberOfTrailingZeros"), (47, u "TYPE"), (0, u "Ljava/lang/Class;"), (0, .class_ 364), (0, u "java/lang/Comparable"), (0, .class_ 366), (0, u "java/lang/constant/Constable"), (0, .class_ 368), (0, u "java/lang/constant/ConstantDesc"), (0, u "MIN_VALUE"), (1, u "MAX_VALUE"), (4, u "SIZE"), (0, u "I"), (1, u "BYTES"), (1, u "serialVersionUID")] 142

def k8c0 : Code := { maxStack := 4, maxLocals := 3, code := jdk_35_method_49_code, exceptionTable := #[], attributes := #[] }
def k8m0 : Method := { name := "numberOfTrailingZeros", desc := "(J)I", sig := { parameters := [.long], returnType := some .int }, accessFlags := 9, code := some k8c0 }
/-- java/lang/Long -/
def k8 : Class := { plain "java/lang/Long" (some 4) with
  accessFlags := 49
  interfaces := #[5, 6, 7]
  cf := some (fileOf pool8 1 #[.nestMembers #[235]] #[{ accessFlags := 9, nameIndex := 313, descriptorIndex := 101, attributes := #[] }] 49 271 #[363, 365, 367] #[{ accessFlags := 25, nameIndex := 369, descriptorIndex := 276, attributes := #[] }, { accessFlags := 25, nameIndex := 371, descriptorIndex := 276, attributes := #[] }, { accessFlags := 25, nameIndex := 361, descriptorIndex := 362, attributes := #[] }, { accessFlags := 18, nameIndex := 275, descriptorIndex := 276, attributes := #[] }, { accessFlags := 25, nameIndex := 376, descriptorIndex := 377, attributes := #[] }, { accessFlags := 25, nameIndex := 379, descriptorIndex := 377, attributes := #[] }, { accessFlags := 26, nameIndex := 381, descriptorIndex := 276, attributes := #[] }])
  fields := #[{ name := "MIN_VALUE", type := .long, accessFlags := 25, slot := 0, constantValue := 0 }, { name := "MAX_VALUE", type := .long, accessFlags := 25, slot := 1, constantValue := 0 }, { name := "TYPE", type := (.object "java/lang/Class"), accessFlags := 25, slot := 2, constantValue := 0 }, { name := "value", type := .long, accessFlags := 18, slot := 0, constantValue := 0 }, { name := "SIZE", type := .int, accessFlags := 25, slot := 3, constantValue := 0 }, { name := "BYTES", type := .int, accessFlags := 25, slot := 4, constantValue := 0 }, { name := "serialVersionUID", type := .long, accessFlags := 26, slot := 5, constantValue := 0 }]
  methods := #[k8m0]
  instanceTypes := #[.long]
  staticTypes := #[.long, .long, (.object "java/lang/Class"), .int, .int, .long]
  resolved := Array.replicate 524 none
  statics := none }

def pool9 : Array CpInfo := pool [(1, .class_ 2), (0, u "java/lang/Integer"), (16, u "digits"), (0, u "[C"), (33, u "(I)I"), (30, u "DigitOnes"), (0, u "[B"), (2, u "DigitTens"), (99, .class_ 190), (0, u "java/lang/Integer$IntegerCache"), (3, u "I"), (8, .class_ 204), (0, u "java/lang/Number"), (2, u "value"), (56, .integer 65536), (37, u "TYPE"), (0, u "Ljava/lang/Class;"), (0, .class_ 305), (0, u "java/lang/Comparable"), (0, .class_ 307), (0, u "java/lang/constant/Constable"), (0, .class_ 309), (0, u "java/lang/constant/ConstantDesc"), (0, u "MIN_VALUE"), (1, u "MAX_VALUE"), (3, u "SIZE"), (1, u "BYTES"), (1, u "serialVersionUID"), (0, u "J"), (84, u "numberOfTrailingZeros")] 46

def k9c0 : Code := { maxStack := 3, maxLocals := 2, code := jdk_33_method_48_code, exceptionTable := #[], attributes := #[] }
def k9m0 : Method := { name := "numberOfTrailingZeros", desc := "(I)I", sig := { parameters := [.int], returnType := some .int }, accessFlags := 9, code := some k9c0 }
/-- java/lang/Integer -/
def k9 : Class := { plain "java/lang/Integer" (some 4) with
  accessFlags := 49
  interfaces := #[5, 6, 7]
  cf := some (fileOf pool9 1 #[.nestMembers #[189]] #[{ accessFlags := 9, nameIndex := 406, descriptorIndex := 54, attributes := #[] }] 49 203 #[304, 306, 308] #[{ accessFlags := 25, nameIndex := 310, descriptorIndex := 194, attributes := #[] }, { accessFlags := 25, nameIndex := 312, descriptorIndex := 194, attributes := #[] }, { accessFlags := 25, nameIndex := 302, descriptorIndex := 303, attributes := #[] }, { accessFlags := 24, nameIndex := 19, descriptorIndex := 20, attributes := #[] }, { accessFlags := 24, nameIndex := 89, descriptorIndex := 86, attributes := #[] }, { accessFlags := 24, nameIndex := 85, descriptorIndex := 86, attributes := #[] }, { accessFlags := 18, nameIndex := 207, descriptorIndex := 194, attributes := #[] }, { accessFlags := 25, nameIndex := 316, descriptorIndex := 194, attributes := #[] }, { accessFlags := 25, nameIndex := 318, descriptorIndex := 194, attributes := #[] }, { accessFlags := 26, nameIndex := 320, descriptorIndex := 321, attributes := #[] }])
  fields := #[{ name := "MIN_VALUE", type := .int, accessFlags := 25, slot := 0, constantValue := 0 }, { name := "MAX_VALUE", type := .int, accessFlags := 25, slot := 1, constantValue := 0 }, { name := "TYPE", type := (.object "java/lang/Class"), accessFlags := 25, slot := 2, constantValue := 0 }, { name := "digits", type := (.array .char), accessFlags := 24, slot := 3, constantValue := 0 }, { name := "DigitTens", type := (.array .byte), accessFlags := 24, slot := 4, constantValue := 0 }, { name := "DigitOnes", type := (.array .byte), accessFlags := 24, slot := 5, constantValue := 0 }, { name := "value", type := .int, accessFlags := 18, slot := 0, constantValue := 0 }, { name := "SIZE", type := .int, accessFlags := 25, slot := 6, constantValue := 0 }, { name := "BYTES", type := .int, accessFlags := 25, slot := 7, constantValue := 0 }, { name := "serialVersionUID", type := .long, accessFlags := 26, slot := 8, constantValue := 0 }]
  methods := #[k9m0]
  instanceTypes := #[.int]
  staticTypes := #[.int, .int, (.object "java/lang/Class"), (.array .char), (.array .byte), (.array .byte), .int, .int, .long]
  resolved := Array.replicate 453 none
  statics := none }

def pool10 : Array CpInfo := pool [(1, .class_ 2), (0, u "java/lang/Math"), (1, .class_ 6), (1, u "java/lang/Object"), (0, u "<init>"), (0, u "()V"), (89, .class_ 100), (1, u "java/lang/Math$RandomNumberGeneratorHolder"), (20, u "(JJ)J"), (2, u "abs"), (0, u "(J)J"), (46, u "negativeZeroFloatBits"), (0, u "J"), (2, u "negativeZeroDoubleBits"), (24, u "min"), (43, u "$assertionsDisabled"), (0, u "Z"), (91, u "twoToTheDoubleScaleDown"), (0, u "D"), (4, u "twoToTheDoubleScaleUp"), (9, u "E"), (3, u "PI"), (2, u "TAU"), (2, u "DEGREES_TO_RADIANS"), (0, u "RADIANS_TO_DEGREES")] 94

def k10m0 : Method := { name := "<init>", desc := "()V", sig := { parameters := [], returnType := none }, accessFlags := 2, code := none }
def k10c1 : Code := { maxStack := 4, maxLocals := 2, code := jdk_29_method_61_code, exceptionTable := #[], attributes := #[] }
def k10m1 : Method := { name := "abs", desc := "(J)J", sig := { parameters := [.long], returnType := some .long }, accessFlags := 9, code := some k10c1 }
def k10c2 : Code := { maxStack := 4, maxLocals := 4, code := jdk_29_method_70_code, exceptionTable := #[], attributes := #[] }
def k10m2 : Method := { name := "min", desc := "(JJ)J", sig := { parameters := [.long, .long], returnType := some .long }, accessFlags := 9, code := some k10c2 }
/-- java/lang/Math -/
def k10 : Class := { plain "java/lang/Math" (some 0) with
  accessFlags := 49
  interfaces := #[]
  cf := some (fileOf pool10 1 #[.nestMembers #[98]] #[{ accessFlags := 2, nameIndex := 7, descriptorIndex := 8, attributes := #[] }, { accessFlags := 9, nameIndex := 124, descriptorIndex := 125, attributes := #[] }, { accessFlags := 9, nameIndex := 201, descriptorIndex := 121, attributes := #[] }] 49 4 #[] #[{ accessFlags := 25, nameIndex := 354, descriptorIndex := 339, attributes := #[] }, { accessFlags := 25, nameIndex := 358, descriptorIndex := 339, attributes := #[] }, { accessFlags := 25, nameIndex := 361, descriptorIndex := 339, attributes := #[] }, { accessFlags := 26, nameIndex := 364, descriptorIndex := 339, attributes := #[] }, { accessFlags := 26, nameIndex := 365, descriptorIndex := 339, attributes := #[] }, { accessFlags := 26, nameIndex := 172, descriptorIndex := 173, attributes := #[] }, { accessFlags := 26, nameIndex := 176, descriptorIndex := 173, attributes := #[] }, { accessFlags := 8, nameIndex := 344, descriptorIndex := 339, attributes := #[] }, { accessFlags := 8, nameIndex := 338, descriptorIndex := 339, attributes := #[] }, { accessFlags := 4120, nameIndex := 245, descriptorIndex := 246, attributes := #[] }])
  fields := #[{ name := "E", type := .double, accessFlags := 25, slot := 0, constantValue := 0 }, { name := "PI", type := .double, accessFlags := 25, slot := 1, constantValue := 0 }, { name := "TAU", type := .double, accessFlags := 25, slot := 2, constantValue := 0 }, { name := "DEGREES_TO_RADIANS", type := .double, accessFlags := 26, slot := 3, constantValue := 0 }, { name := "RADIANS_TO_DEGREES", type := .double, accessFlags := 26, slot := 4, constantValue := 0 }, { name := "negativeZeroFloatBits", type := .long, accessFlags := 26, slot := 5, constantValue := 0 }, { name := "negativeZeroDoubleBits", type := .long, accessFlags := 26, slot := 6, constantValue := 0 }, { name := "twoToTheDoubleScaleUp", type := .double, accessFlags := 8, slot := 7, constantValue := 0 }, { name := "twoToTheDoubleScaleDown", type := .double, accessFlags := 8, slot := 8, constantValue := 0 }, { name := "$assertionsDisabled", type := .boolean, accessFlags := 4120, slot := 9, constantValue := 0 }]
  methods := #[k10m0, k10m1, k10m2]
  instanceTypes := #[]
  staticTypes := #[.double, .double, .double, .double, .double, .long, .long, .double, .double, .boolean]
  resolved := Array.replicate 460 none
  statics := none }

def pool11 : Array CpInfo := pool [(1, u "java/lang/Cloneable"), (0, .class_ 1), (0, u "java/lang/Object"), (0, .class_ 3)] 3

/-- java/lang/Cloneable -/
def k11 : Class := { plain "java/lang/Cloneable" (some 0) with
  accessFlags := 1537
  interfaces := #[]
  cf := some (fileOf pool11 2 #[] #[] 1537 4 #[] #[])
  fields := #[]
  methods := #[]
  instanceTypes := #[]
  staticTypes := #[]
  resolved := Array.replicate 8 none
  statics := none }

/-- the primitive byte -/
def k12 : Class := { plain "byte" none with kind := .primitive 'B', accessFlags := 0x411 }
/-- [B -/
def k13 : Class := { plain "[B" (some 0) with kind := .array 12 .byte, interfaces := #[11, 3], accessFlags := 1041 }

/-- the primitive int -/
def k14 : Class := { plain "int" none with kind := .primitive 'I', accessFlags := 0x411 }
/-- [I -/
def k15 : Class := { plain "[I" (some 0) with kind := .array 14 .int, interfaces := #[11, 3], accessFlags := 1041 }

def heap : Heap := #[]
def classes : Array Class := #[k0, k1, k2, k3, k4, k5, k6, k7, k8, k9, k10, k11, k12, k13, k14, k15]
def interned : List (Array UInt16 × Addr) := []
def slotsUsed : Nat := 0
def theMethod : MethodId := ⟨1, 1⟩
def args0 : Array Value := #[.long 5, .long 6, .long 7, .long 8, .long 9, .int 3]
def aboutOver (below : List Frame) : State where
  vm := { classes := classes, interned := interned.toArray }
  heap := heap
  slotsUsed := slotsUsed
  threads := #[{ frames := .invoking theMethod args0 :: below }]
def below0 : List Frame := [.native { method := ⟨0, 0⟩, args := #[] }]
def about1 : State := aboutOver below0
def p0 : Program := .bare "" "" ""
def e0 : Env := launch0.env 0 0 0
theorem w_frames : about1.frames = Frame.invoking theMethod args0 :: below0 := rfl
set_option maxRecDepth 65536 in
theorem w_args : argsFit about1.vm theMethod args0 = true := by decide +kernel
set_option maxRecDepth 65536 in
theorem w_heap : heapFits about1 = true := by decide +kernel
set_option maxRecDepth 65536 in
theorem w_runnable : about1.curStatus? = some .runnable := by decide +kernel
set_option maxRecDepth 65536 in
theorem w_alone : about1.alone = true := by decide +kernel
set_option maxRecDepth 65536 in
theorem w_named : about1.methodNamed? x = some theMethod := by decide +kernel
set_option maxRecDepth 65536 in
theorem w_hears : about1.hears theMethod below0 = true := by decide +kernel
set_option maxRecDepth 65536 in
theorem w_ripe : about1.ripe theMethod args0 below0 = true := by decide +kernel
theorem w_running : about1.status = .running := rfl
set_option maxRecDepth 65536 in
theorem w_room : about1.hasRoom e0.platform room_1 = true :=
  launch0.hasRoom_least _ room_1 (by decide +kernel) (by decide +kernel) (by decide +kernel) (by decide +kernel) (by decide +kernel) (by decide +kernel)
theorem allAtoms_all (ts : List Jvm.Cond) (a : Array Jvm.Value) (st : Jvm.State) : (allAtoms ts).before a st = ts.all (fun c => c.before a st) := by
  induction ts with
  | nil => rfl
  | cons c t ih =>
    show (Jvm.Cond.and c (allAtoms t)).before a st = _
    rw [Jvm.Cond.before_and, ih, List.all_cons]
def words1 : List Jvm.Cond := Jvm.Cond.code x code maxLocals ret :: tables_1
/-- a 'code' word, met by the world's own term for the bytes: nothing is compared byte by byte -/
theorem code_word {y : MethodName} {bytes : ByteArray} {mx : Nat} {rt : Option FieldType} {a : Array Value} {s : State} {m : MethodId} {meth : Method} {c : Code} (h1 : s.methodNamed? y = some m) (h2 : s.vm.method? m = some meth) (h3 : meth.code = some c) (h4 : c.code = bytes)
    (h5 : (c.maxLocals == mx && c.exceptionTable.isEmpty && decide (c.maxStack ≤ mostOperands) && decide (meth.sig.returnType = rt) && !meth.locks && decide (parseMethodDescriptor y.desc = some meth.sig)) = true) : (Jvm.Cond.code y bytes mx rt).before a s = true := by
  simp only [Bool.and_eq_true, beq_iff_eq, Bool.not_eq_true', decide_eq_true_eq] at h5
  obtain ⟨⟨⟨⟨⟨g1, g2⟩, g3⟩, g4⟩, g5⟩, g6⟩ := h5
  simp [Cond.before, Cond.holds, Cond.value, h1, h2, h3, h4, g1, g2, g3, g4, g5, g6]
def isCode : Jvm.Cond → Bool
  | .code _ _ _ _ => true
  | _ => false
theorem all_split {L : List Jvm.Cond} {P : Jvm.Cond → Bool} (h1 : L.all (fun c => isCode c || P c) = true) (h2 : ∀ c ∈ L.filter isCode, P c = true) : L.all P = true := by
  refine List.all_eq_true.mpr fun c hc => ?_
  have h := List.all_eq_true.mp h1 c hc
  rcases Bool.eq_false_or_eq_true (isCode c) with hi | hi
  · exact h2 c (List.mem_filter.mpr ⟨hc, hi⟩)
  · simpa [hi] using h
set_option maxRecDepth 65536 in
theorem w_c0 : (Jvm.Cond.code x code maxLocals ret).before args0 about1 = true := code_word (m := ⟨1, 1⟩) (meth := k1m1) (c := k1c1) (by decide +kernel) rfl rfl rfl (by decide +kernel)
set_option maxRecDepth 65536 in
theorem w_c1 : (Jvm.Cond.code ({ cls := "com/example/curves_to_bounds/curvestobounds/Gcd", name := "of", desc := "(JJ)J" } : Jvm.MethodName) prog_24_method_2_code (11 : Nat) (Option.some Jvm.ClassFile.FieldType.long)).before args0 about1 = true := code_word (m := ⟨2, 1⟩) (meth := k2m1) (c := k2c1) (by decide +kernel) rfl rfl rfl (by decide +kernel)
set_option maxRecDepth 65536 in
theorem w_c2 : (Jvm.Cond.code ({ cls := "java/lang/Long", name := "numberOfTrailingZeros", desc := "(J)I" } : Jvm.MethodName) jdk_35_method_49_code (3 : Nat) (Option.some Jvm.ClassFile.FieldType.int)).before args0 about1 = true := code_word (m := ⟨8, 0⟩) (meth := k8m0) (c := k8c0) (by decide +kernel) rfl rfl rfl (by decide +kernel)
set_option maxRecDepth 65536 in
theorem w_c3 : (Jvm.Cond.code ({ cls := "java/lang/Integer", name := "numberOfTrailingZeros", desc := "(I)I" } : Jvm.MethodName) jdk_33_method_48_code (2 : Nat) (Option.some Jvm.ClassFile.FieldType.int)).before args0 about1 = true := code_word (m := ⟨9, 0⟩) (meth := k9m0) (c := k9c0) (by decide +kernel) rfl rfl rfl (by decide +kernel)
set_option maxRecDepth 65536 in
theorem w_c4 : (Jvm.Cond.code ({ cls := "java/lang/Math", name := "min", desc := "(JJ)J" } : Jvm.MethodName) jdk_29_method_70_code (4 : Nat) (Option.some Jvm.ClassFile.FieldType.long)).before args0 about1 = true := code_word (m := ⟨10, 2⟩) (meth := k10m2) (c := k10c2) (by decide +kernel) rfl rfl rfl (by decide +kernel)
set_option maxRecDepth 65536 in
theorem w_c5 : (Jvm.Cond.code ({ cls := "java/lang/Math", name := "abs", desc := "(J)J" } : Jvm.MethodName) jdk_29_method_61_code (2 : Nat) (Option.some Jvm.ClassFile.FieldType.long)).before args0 about1 = true := code_word (m := ⟨10, 1⟩) (meth := k10m1) (c := k10c1) (by decide +kernel) rfl rfl rfl (by decide +kernel)
def codes1 : List Jvm.Cond := [Jvm.Cond.code x code maxLocals ret, Jvm.Cond.code ({ cls := "com/example/curves_to_bounds/curvestobounds/Gcd", name := "of", desc := "(JJ)J" } : Jvm.MethodName) prog_24_method_2_code (11 : Nat) (Option.some Jvm.ClassFile.FieldType.long), Jvm.Cond.code ({ cls := "java/lang/Long", name := "numberOfTrailingZeros", desc := "(J)I" } : Jvm.MethodName) jdk_35_method_49_code (3 : Nat) (Option.some Jvm.ClassFile.FieldType.int), Jvm.Cond.code ({ cls := "java/lang/Integer", name := "numberOfTrailingZeros", desc := "(I)I" } : Jvm.MethodName) jdk_33_method_48_code (2 : Nat) (Option.some Jvm.ClassFile.FieldType.int), Jvm.Cond.code ({ cls := "java/lang/Math", name := "min", desc := "(JJ)J" } : Jvm.MethodName) jdk_29_method_70_code (4 : Nat) (Option.some Jvm.ClassFile.FieldType.long), Jvm.Cond.code ({ cls := "java/lang/Math", name := "abs", desc := "(J)J" } : Jvm.MethodName) jdk_29_method_61_code (2 : Nat) (Option.some Jvm.ClassFile.FieldType.long)]
set_option maxRecDepth 65536 in
theorem codes_eq : words1.filter isCode = codes1 := rfl
theorem w_codes : ∀ c ∈ words1.filter isCode, c.before args0 about1 = true := by
  rw [codes_eq]
  intro c hc
  simp only [codes1, List.mem_cons, List.not_mem_nil, or_false] at hc
  rcases hc with rfl | rfl | rfl | rfl | rfl | rfl
  · exact w_c0
  · exact w_c1
  · exact w_c2
  · exact w_c3
  · exact w_c4
  · exact w_c5
set_option maxRecDepth 65536 in
theorem w_t1 : words1.all (fun c => isCode c || c.before args0 about1) = true := by decide +kernel
theorem w_tables : (allAtoms (Jvm.Cond.code x code maxLocals ret :: tables_1)).before args0 about1 = true := by
  rw [allAtoms_all]
  show words1.all (fun c => c.before args0 about1) = true
  refine all_split ?_ w_codes
  rw [w_t1]
set_option maxRecDepth 65536 in
theorem w_case : (Jvm.Cond.and given_1 narrow_1).before args0 about1 = true := by decide +kernel
theorem w_applies : (headSpec (Jvm.Cond.code x code maxLocals ret :: tables_1) room_1).applies x e0.platform about1 = true :=
  (Spec.applies_iff w_frames).mpr ⟨w_running, w_runnable, w_alone, w_named, w_hears, w_ripe, w_room, w_tables⟩
theorem atStart : AtStart classFile x code maxLocals ret World_1 tables_1 room_1 Calls_1 rest_1 Pre_1 launch0 p0 e0 about1 theMethod args0 below0 :=
  ⟨lists_1, trivial, launch0.admits_env _ _ _, launch0.least_env, fairChoices_fair.cas, fairChoices_fair.clock, w_frames, w_args, w_heap, w_applies, trivial, trivial, w_case⟩
end start1
theorem witness_1 : WitnessClaimed_1 := ⟨start1.p0, start1.e0, start1.about1, start1.theMethod, start1.args0, start1.below0, start1.atStart⟩
end Jvm.Pilot.@@N@@
