import JvmDerived
import JvmDerived.Pilot.@@N@@Statement
import JvmDerived.Pilot.@@N@@Code
set_option linter.unusedVariables false
set_option linter.unusedSimpArgs false
@@BLOCK:NumsL.lean.txt@@
namespace Jvm.Pilot.@@N@@
open Jvm Jvm.ClassFile Sem Op Lib Jvm.Free Jvm.Stand Jvm.LawKit Jvm.RoadKit Bundle Jvm.Pilot.@@N@@.Jvm.D
section OwnKit
variable {p : Program} {l : Launch} {e : Env} {R : Room} {s : State} {m : MethodId} {args : Array Value} {below : List Frame} {meth : Method} {c : Code} {T T' : State} {locs : List Loc} {cells slots : Nat} {Z : State} {a0 : Array Value} {h h' : Heap} {cm sm : Nat} {Q : Option Value → Heap → List Loc → Prop} {pc pc' : Nat} {Ls Ls' : Array Slot} {St : List Value}
/-- the walk's goal: from this frame the method comes to its end, and Q holds of what it leaves -/
def Go (p : Program) (e : Env) (below : List Frame) (s : State) (cm sm : Nat) (Q : Option Value → Heap → List Loc → Prop) (T : State) (g : JFrame) : Prop :=
  ∃ s₂ o, Steps p.tables e below (T.setTop g) s₂ ∧ s₂.status = .running ∧ Ended s₂ below o ∧ ∃ v L, o = .returned v ∧ Q v s₂.heap L ∧ FrameEnd s o s₂ L cm sm
theorem Go.st {g g' : JFrame} (q : ∀ t, Steps p.tables e below (T'.setTop g') t → Steps p.tables e below (T.setTop g) t) (k : Go p e below s cm sm Q T' g') : Go p e below s cm sm Q T g := by
  obtain ⟨s₂, o, st, r⟩ := k
  exact ⟨s₂, o, q _ st, r⟩
theorem Go.weak {g : JFrame} {Q' : Option Value → Heap → List Loc → Prop} (k : Go p e below s cm sm Q T g) (q : ∀ v h L, Q v h L → Q' v h L) : Go p e below s cm sm Q' T g := by
  obtain ⟨s₂, o, st, r1, r2, v, L, r3, r4, r5⟩ := k
  exact ⟨s₂, o, st, r1, r2, v, L, r3, q _ _ _ r4, r5⟩
/-- a contract -/
def Con (l : Launch) (Z : State) (y : MethodName) (bytes : ByteArray) (maxL : Nat) (ret : Option FieldType) (rm : Room) (as' : Array Value) (h : Heap) (Q : Option Value → Heap → List Loc → Prop) : Prop :=
  ∀ ws : List Jvm.Cond, MetFree l y (head1 (Jvm.Cond.code y bytes maxL ret :: ws) rm) (fun a U => a = as' ∧ Z.Warmed39 U.vm ∧ U.heap = h) (fun _ _ _ _ _ => True) (fun _ U o U' => ∃ v L, o = .returned v ∧ Q v U'.heap L ∧ FrameEnd U o U' L rm.cells rm.slots)
theorem Con.of {y : MethodName} {bytes : ByteArray} {maxL : Nat} {ret : Option FieldType} {rm : Room} {as' : Array Value} (hpl : plainFor y = true)
    (body : ∀ (p : Program) (e : Env) (s : State) (m : MethodId) (below : List Frame) (meth : Method) (c : Code) (T : State), Stand p l e rm s m as' below meth c T [] 0 0 → p.tables.exec = Jvm.exec → Z.Warmed39 s.vm → c.code = bytes → c.maxLocals = maxL → s.vm.findClass y.cls = some m.cls → meth.name = y.name → meth.sig.returnType = ret → meth.locks = false → T.heap = h → Go p e below s rm.cells rm.slots Q T (entryFrame m as' maxL)) :
    Con l Z y bytes maxL ret rm as' h Q := by
  intro ws
  refine MetFree.of_bodySF hpl hisR ?_
  intro p e s m args below meth c s₁ Bd hml0 hP hK
  obtain ⟨rfl, hZ, hh⟩ := hP
  exact body p e s m below meth c s₁ (Stand.of_body Bd) Bd.exec hZ Bd.bytes hml0 (findClass_of_methodNamed Bd.named) (name_of_methodNamed Bd.named Bd.method).1 Bd.returns Bd.notSynchronized (by rw [← hh, Bd.state]; rfl)
theorem Con.weak {y : MethodName} {bytes : ByteArray} {maxL : Nat} {ret : Option FieldType} {rm : Room} {as' : Array Value} {Q' : Option Value → Heap → List Loc → Prop} (C : Con l Z y bytes maxL ret rm as' h Q) (q : ∀ v h L, Q v h L → Q' v h L) : Con l Z y bytes maxL ret rm as' h Q' := by
  intro ws p e ha hc hk s m args below hf happ hP hK
  obtain ⟨n, o, h1, h2, h3, v, L, r3, r4, r5⟩ := C ws p e ha hc hk s m args below hf happ hP hK
  exact ⟨n, o, h1, h2, h3, v, L, r3, q _ _ _ r4, r5⟩
/-- what a body that writes nothing leaves -/
abbrev QP (v0 : Option Value) (h0 : Heap) (n0 : Nat) : Option Value → Heap → List Loc → Prop := fun v h L => v = v0 ∧ Fr n0 L ∧ h = h0
/-- what a law leaves -/
abbrev QL (v0 : Option Value) (n0 : Nat) : Option Value → Heap → List Loc → Prop := fun v _ L => v = v0 ∧ Fr n0 L
/-- iushr, lushr -/
def jushr (x y : Int32) : Int32 := (x.toUInt32 >>> (y &&& 31).toUInt32).toInt32
def jlushr (x : Int64) (y : Int32) : Int64 := (x.toUInt64 >>> (y &&& 0x3f).toInt64.toUInt64).toInt64
theorem w_iloadN (X : Stand p l e R s m args below meth c T locs cells slots) (hx : p.tables.exec = Jvm.exec) {k : Fin 4} {v : Int32} (hd : decode c.code pc = .ok (.iload_n k, 1)) (hp : pc + 1 = pc') (hl : Ls[k.val]? = some (.val (.int v)))
    (kk : Go p e below s cm sm Q T (mkF m pc' Ls (.int v :: St))) : Go p e below s cm sm Q T (mkF m pc Ls (St)) := by
  subst hp
  exact Go.st (fun t q => XS.iloadN (g := mkF m pc Ls (St)) X.here hx rfl hd hl q) kk
theorem w_iload (X : Stand p l e R s m args below meth c T locs cells slots) (hx : p.tables.exec = Jvm.exec) {k : Nat} {v : Int32} (hd : decode c.code pc = .ok (.iload k, 2)) (hp : pc + 2 = pc') (hl : Ls[k]? = some (.val (.int v)))
    (kk : Go p e below s cm sm Q T (mkF m pc' Ls (.int v :: St))) : Go p e below s cm sm Q T (mkF m pc Ls (St)) := by
  subst hp
  exact Go.st (fun t q => XS.iload (g := mkF m pc Ls (St)) X.here hx rfl hd hl q) kk
theorem w_istoreN (X : Stand p l e R s m args below meth c T locs cells slots) (hx : p.tables.exec = Jvm.exec) {k : Fin 4} {x : Int32} (hd : decode c.code pc = .ok (.istore_n k, 1)) (hp : pc + 1 = pc') (hl : storeLocals Ls k.val (.int x) = some Ls')
    (kk : Go p e below s cm sm Q T (mkF m pc' Ls' (St))) : Go p e below s cm sm Q T (mkF m pc Ls (.int x :: St)) := by
  subst hp
  exact Go.st (fun t q => XS.istoreN (g := mkF m pc Ls (.int x :: St)) X.here hx rfl hd rfl hl q) kk
theorem w_istore (X : Stand p l e R s m args below meth c T locs cells slots) (hx : p.tables.exec = Jvm.exec) {k : Nat} {x : Int32} (hd : decode c.code pc = .ok (.istore k, 2)) (hp : pc + 2 = pc') (hl : storeLocals Ls k (.int x) = some Ls')
    (kk : Go p e below s cm sm Q T (mkF m pc' Ls' (St))) : Go p e below s cm sm Q T (mkF m pc Ls (.int x :: St)) := by
  subst hp
  exact Go.st (fun t q => XS.istore (g := mkF m pc Ls (.int x :: St)) X.here hx rfl hd rfl hl q) kk
theorem w_lloadN (X : Stand p l e R s m args below meth c T locs cells slots) (hx : p.tables.exec = Jvm.exec) {k : Fin 4} {v : Int64} (hd : decode c.code pc = .ok (.lload_n k, 1)) (hp : pc + 1 = pc') (hl : Ls[k.val]? = some (.val (.long v)))
    (kk : Go p e below s cm sm Q T (mkF m pc' Ls (.long v :: St))) : Go p e below s cm sm Q T (mkF m pc Ls (St)) := by
  subst hp
  exact Go.st (fun t q => XS.lloadN (g := mkF m pc Ls (St)) X.here hx rfl hd hl q) kk
theorem w_lload (X : Stand p l e R s m args below meth c T locs cells slots) (hx : p.tables.exec = Jvm.exec) {k : Nat} {v : Int64} (hd : decode c.code pc = .ok (.lload k, 2)) (hp : pc + 2 = pc') (hl : Ls[k]? = some (.val (.long v)))
    (kk : Go p e below s cm sm Q T (mkF m pc' Ls (.long v :: St))) : Go p e below s cm sm Q T (mkF m pc Ls (St)) := by
  subst hp
  exact Go.st (fun t q => XS.lload (g := mkF m pc Ls (St)) X.here hx rfl hd hl q) kk
theorem w_lstoreN (X : Stand p l e R s m args below meth c T locs cells slots) (hx : p.tables.exec = Jvm.exec) {k : Fin 4} {x : Int64} (hd : decode c.code pc = .ok (.lstore_n k, 1)) (hp : pc + 1 = pc') (hl : storeLocals Ls k.val (.long x) = some Ls')
    (kk : Go p e below s cm sm Q T (mkF m pc' Ls' (St))) : Go p e below s cm sm Q T (mkF m pc Ls (.long x :: St)) := by
  subst hp
  exact Go.st (fun t q => XS.lstoreN (g := mkF m pc Ls (.long x :: St)) X.here hx rfl hd rfl hl q) kk
theorem w_lstore (X : Stand p l e R s m args below meth c T locs cells slots) (hx : p.tables.exec = Jvm.exec) {k : Nat} {x : Int64} (hd : decode c.code pc = .ok (.lstore k, 2)) (hp : pc + 2 = pc') (hl : storeLocals Ls k (.long x) = some Ls')
    (kk : Go p e below s cm sm Q T (mkF m pc' Ls' (St))) : Go p e below s cm sm Q T (mkF m pc Ls (.long x :: St)) := by
  subst hp
  exact Go.st (fun t q => XS.lstore (g := mkF m pc Ls (.long x :: St)) X.here hx rfl hd rfl hl q) kk
theorem w_aloadN (X : Stand p l e R s m args below meth c T locs cells slots) (hx : p.tables.exec = Jvm.exec) {k : Fin 4} {v : Value} (hd : decode c.code pc = .ok (.aload_n k, 1)) (hp : pc + 1 = pc') (hl : Ls[k.val]? = some (.val v)) (hv : v.isRef = true)
    (kk : Go p e below s cm sm Q T (mkF m pc' Ls (v :: St))) : Go p e below s cm sm Q T (mkF m pc Ls (St)) := by
  subst hp
  exact Go.st (fun t q => XS.aloadN (g := mkF m pc Ls (St)) X.here hx rfl hd hl hv q) kk
theorem w_aload (X : Stand p l e R s m args below meth c T locs cells slots) (hx : p.tables.exec = Jvm.exec) {k : Nat} {v : Value} (hd : decode c.code pc = .ok (.aload k, 2)) (hp : pc + 2 = pc') (hl : Ls[k]? = some (.val v)) (hv : v.isRef = true)
    (kk : Go p e below s cm sm Q T (mkF m pc' Ls (v :: St))) : Go p e below s cm sm Q T (mkF m pc Ls (St)) := by
  subst hp
  exact Go.st (fun t q => XS.aload (g := mkF m pc Ls (St)) X.here hx rfl hd hl hv q) kk
theorem w_astoreN (X : Stand p l e R s m args below meth c T locs cells slots) (hx : p.tables.exec = Jvm.exec) {k : Fin 4} {x : Value} (hd : decode c.code pc = .ok (.astore_n k, 1)) (hp : pc + 1 = pc') (hv : x.isRef = true) (hl : storeLocals Ls k.val x = some Ls')
    (kk : Go p e below s cm sm Q T (mkF m pc' Ls' (St))) : Go p e below s cm sm Q T (mkF m pc Ls (x :: St)) := by
  subst hp
  exact Go.st (fun t q => XS.astoreN (g := mkF m pc Ls (x :: St)) X.here hx rfl hd rfl hv hl q) kk
theorem w_astore (X : Stand p l e R s m args below meth c T locs cells slots) (hx : p.tables.exec = Jvm.exec) {k : Nat} {x : Value} (hd : decode c.code pc = .ok (.astore k, 2)) (hp : pc + 2 = pc') (hv : x.isRef = true) (hl : storeLocals Ls k x = some Ls')
    (kk : Go p e below s cm sm Q T (mkF m pc' Ls' (St))) : Go p e below s cm sm Q T (mkF m pc Ls (x :: St)) := by
  subst hp
  exact Go.st (fun t q => XS.astore (g := mkF m pc Ls (x :: St)) X.here hx rfl hd rfl hv hl q) kk
theorem w_iconst (X : Stand p l e R s m args below meth c T locs cells slots) (hx : p.tables.exec = Jvm.exec) {i : Int} {v : Int32} (hd : decode c.code pc = .ok (.iconst i, 1)) (hp : pc + 1 = pc') (hv : Int32.ofInt i = v)
    (kk : Go p e below s cm sm Q T (mkF m pc' Ls (.int v :: St))) : Go p e below s cm sm Q T (mkF m pc Ls St) := by
  subst hp hv
  exact Go.st (fun t q => XS.iconst (g := mkF m pc Ls St) X.here hx rfl hd q) kk
theorem w_bipush (X : Stand p l e R s m args below meth c T locs cells slots) (hx : p.tables.exec = Jvm.exec) {i : Int} {v : Int32} (hd : decode c.code pc = .ok (.bipush i, 2)) (hp : pc + 2 = pc') (hv : (Int8.ofInt i).toInt32 = v)
    (kk : Go p e below s cm sm Q T (mkF m pc' Ls (.int v :: St))) : Go p e below s cm sm Q T (mkF m pc Ls St) := by
  subst hp hv
  exact Go.st (fun t q => XS.bipush (g := mkF m pc Ls St) X.here hx rfl hd q) kk
theorem w_sipush (X : Stand p l e R s m args below meth c T locs cells slots) (hx : p.tables.exec = Jvm.exec) {i : Int} {v : Int32} (hd : decode c.code pc = .ok (.sipush i, 3)) (hp : pc + 3 = pc') (hv : (Int16.ofInt i).toInt32 = v)
    (kk : Go p e below s cm sm Q T (mkF m pc' Ls (.int v :: St))) : Go p e below s cm sm Q T (mkF m pc Ls St) := by
  subst hp hv
  exact Go.st (fun t q => XS.sipush (g := mkF m pc Ls St) X.here hx rfl hd q) kk
theorem w_lconst (X : Stand p l e R s m args below meth c T locs cells slots) (hx : p.tables.exec = Jvm.exec) {i : Fin 2} {v : Int64} (hd : decode c.code pc = .ok (.lconst i, 1)) (hp : pc + 1 = pc') (hv : Int64.ofNat i = v)
    (kk : Go p e below s cm sm Q T (mkF m pc' Ls (.long v :: St))) : Go p e below s cm sm Q T (mkF m pc Ls St) := by
  subst hp hv
  exact Go.st (fun t q => XS.lconst (g := mkF m pc Ls St) X.here hx rfl hd q) kk
theorem w_aconstNull (X : Stand p l e R s m args below meth c T locs cells slots) (hx : p.tables.exec = Jvm.exec)  (hd : decode c.code pc = .ok (.aconst_null, 1)) (hp : pc + 1 = pc')
    (kk : Go p e below s cm sm Q T (mkF m pc' Ls (.null :: St))) : Go p e below s cm sm Q T (mkF m pc Ls (St)) := by
  subst hp
  exact Go.st (fun t q => XS.aconstNull (g := mkF m pc Ls (St)) X.here hx rfl hd q) kk
theorem w_iadd (X : Stand p l e R s m args below meth c T locs cells slots) (hx : p.tables.exec = Jvm.exec) {x y : Int32} (hd : decode c.code pc = .ok (.iadd, 1)) (hp : pc + 1 = pc')
    (kk : Go p e below s cm sm Q T (mkF m pc' Ls (.int (x + y) :: St))) : Go p e below s cm sm Q T (mkF m pc Ls (.int y :: .int x :: St)) := by
  subst hp
  exact Go.st (fun t q => XS.iadd (g := mkF m pc Ls (.int y :: .int x :: St)) X.here hx rfl hd rfl q) kk
theorem w_ladd (X : Stand p l e R s m args below meth c T locs cells slots) (hx : p.tables.exec = Jvm.exec) {x y : Int64} (hd : decode c.code pc = .ok (.ladd, 1)) (hp : pc + 1 = pc')
    (kk : Go p e below s cm sm Q T (mkF m pc' Ls (.long (x + y) :: St))) : Go p e below s cm sm Q T (mkF m pc Ls (.long y :: .long x :: St)) := by
  subst hp
  exact Go.st (fun t q => XS.ladd (g := mkF m pc Ls (.long y :: .long x :: St)) X.here hx rfl hd rfl q) kk
theorem w_isub (X : Stand p l e R s m args below meth c T locs cells slots) (hx : p.tables.exec = Jvm.exec) {x y : Int32} (hd : decode c.code pc = .ok (.isub, 1)) (hp : pc + 1 = pc')
    (kk : Go p e below s cm sm Q T (mkF m pc' Ls (.int (x - y) :: St))) : Go p e below s cm sm Q T (mkF m pc Ls (.int y :: .int x :: St)) := by
  subst hp
  exact Go.st (fun t q => XS.isub (g := mkF m pc Ls (.int y :: .int x :: St)) X.here hx rfl hd rfl q) kk
theorem w_lsub (X : Stand p l e R s m args below meth c T locs cells slots) (hx : p.tables.exec = Jvm.exec) {x y : Int64} (hd : decode c.code pc = .ok (.lsub, 1)) (hp : pc + 1 = pc')
    (kk : Go p e below s cm sm Q T (mkF m pc' Ls (.long (x - y) :: St))) : Go p e below s cm sm Q T (mkF m pc Ls (.long y :: .long x :: St)) := by
  subst hp
  exact Go.st (fun t q => XS.lsub (g := mkF m pc Ls (.long y :: .long x :: St)) X.here hx rfl hd rfl q) kk
theorem w_imul (X : Stand p l e R s m args below meth c T locs cells slots) (hx : p.tables.exec = Jvm.exec) {x y : Int32} (hd : decode c.code pc = .ok (.imul, 1)) (hp : pc + 1 = pc')
    (kk : Go p e below s cm sm Q T (mkF m pc' Ls (.int (x * y) :: St))) : Go p e below s cm sm Q T (mkF m pc Ls (.int y :: .int x :: St)) := by
  subst hp
  exact Go.st (fun t q => XS.imul (g := mkF m pc Ls (.int y :: .int x :: St)) X.here hx rfl hd rfl q) kk
theorem w_lmul (X : Stand p l e R s m args below meth c T locs cells slots) (hx : p.tables.exec = Jvm.exec) {x y : Int64} (hd : decode c.code pc = .ok (.lmul, 1)) (hp : pc + 1 = pc')
    (kk : Go p e below s cm sm Q T (mkF m pc' Ls (.long (x * y) :: St))) : Go p e below s cm sm Q T (mkF m pc Ls (.long y :: .long x :: St)) := by
  subst hp
  exact Go.st (fun t q => XS.lmul (g := mkF m pc Ls (.long y :: .long x :: St)) X.here hx rfl hd rfl q) kk
theorem w_iand (X : Stand p l e R s m args below meth c T locs cells slots) (hx : p.tables.exec = Jvm.exec) {x y : Int32} (hd : decode c.code pc = .ok (.iand, 1)) (hp : pc + 1 = pc')
    (kk : Go p e below s cm sm Q T (mkF m pc' Ls (.int (x &&& y) :: St))) : Go p e below s cm sm Q T (mkF m pc Ls (.int y :: .int x :: St)) := by
  subst hp
  exact Go.st (fun t q => XS.iand (g := mkF m pc Ls (.int y :: .int x :: St)) X.here hx rfl hd rfl q) kk
theorem w_land (X : Stand p l e R s m args below meth c T locs cells slots) (hx : p.tables.exec = Jvm.exec) {x y : Int64} (hd : decode c.code pc = .ok (.land, 1)) (hp : pc + 1 = pc')
    (kk : Go p e below s cm sm Q T (mkF m pc' Ls (.long (x &&& y) :: St))) : Go p e below s cm sm Q T (mkF m pc Ls (.long y :: .long x :: St)) := by
  subst hp
  exact Go.st (fun t q => XS.land (g := mkF m pc Ls (.long y :: .long x :: St)) X.here hx rfl hd rfl q) kk
theorem w_ior (X : Stand p l e R s m args below meth c T locs cells slots) (hx : p.tables.exec = Jvm.exec) {x y : Int32} (hd : decode c.code pc = .ok (.ior, 1)) (hp : pc + 1 = pc')
    (kk : Go p e below s cm sm Q T (mkF m pc' Ls (.int (x ||| y) :: St))) : Go p e below s cm sm Q T (mkF m pc Ls (.int y :: .int x :: St)) := by
  subst hp
  exact Go.st (fun t q => XS.ior (g := mkF m pc Ls (.int y :: .int x :: St)) X.here hx rfl hd rfl q) kk
theorem w_lor (X : Stand p l e R s m args below meth c T locs cells slots) (hx : p.tables.exec = Jvm.exec) {x y : Int64} (hd : decode c.code pc = .ok (.lor, 1)) (hp : pc + 1 = pc')
    (kk : Go p e below s cm sm Q T (mkF m pc' Ls (.long (x ||| y) :: St))) : Go p e below s cm sm Q T (mkF m pc Ls (.long y :: .long x :: St)) := by
  subst hp
  exact Go.st (fun t q => XS.lor (g := mkF m pc Ls (.long y :: .long x :: St)) X.here hx rfl hd rfl q) kk
theorem w_ixor (X : Stand p l e R s m args below meth c T locs cells slots) (hx : p.tables.exec = Jvm.exec) {x y : Int32} (hd : decode c.code pc = .ok (.ixor, 1)) (hp : pc + 1 = pc')
    (kk : Go p e below s cm sm Q T (mkF m pc' Ls (.int (x ^^^ y) :: St))) : Go p e below s cm sm Q T (mkF m pc Ls (.int y :: .int x :: St)) := by
  subst hp
  exact Go.st (fun t q => XS.ixor (g := mkF m pc Ls (.int y :: .int x :: St)) X.here hx rfl hd rfl q) kk
theorem w_lxor (X : Stand p l e R s m args below meth c T locs cells slots) (hx : p.tables.exec = Jvm.exec) {x y : Int64} (hd : decode c.code pc = .ok (.lxor, 1)) (hp : pc + 1 = pc')
    (kk : Go p e below s cm sm Q T (mkF m pc' Ls (.long (x ^^^ y) :: St))) : Go p e below s cm sm Q T (mkF m pc Ls (.long y :: .long x :: St)) := by
  subst hp
  exact Go.st (fun t q => XS.lxor (g := mkF m pc Ls (.long y :: .long x :: St)) X.here hx rfl hd rfl q) kk
theorem w_idiv (X : Stand p l e R s m args below meth c T locs cells slots) (hx : p.tables.exec = Jvm.exec) {x y : Int32} (hd : decode c.code pc = .ok (.idiv, 1)) (hp : pc + 1 = pc') (hy : y ≠ 0)
    (kk : Go p e below s cm sm Q T (mkF m pc' Ls (.int (x / y) :: St))) : Go p e below s cm sm Q T (mkF m pc Ls (.int y :: .int x :: St)) := by
  subst hp
  exact Go.st (fun t q => XS.idiv (g := mkF m pc Ls (.int y :: .int x :: St)) X.here hx rfl hd rfl hy q) kk
theorem own_irem (x y : Int32) : x - x / y * y = x % y := by
  apply Int32.toInt_inj.mp
  have h : x.toInt - x.toInt.tdiv y.toInt * y.toInt = x.toInt.tmod y.toInt := by
    have := Int.mul_tdiv_add_tmod x.toInt y.toInt
    rw [Int.mul_comm]; omega
  have hr := (x % y).toInt_lt
  have hl := (x % y).le_toInt
  rw [Int32.toInt_mod] at hr hl
  rw [Int32.toInt_sub, Int32.toInt_mul, Int32.toInt_div, Int32.toInt_mod, Int.bmod_mul_bmod, Int.sub_bmod_bmod, h, Jvm.Kit.bmod32 (by omega) (by omega)]
theorem w_irem (X : Stand p l e R s m args below meth c T locs cells slots) (hx : p.tables.exec = Jvm.exec) {x y : Int32} (hd : decode c.code pc = .ok (.irem, 1)) (hp : pc + 1 = pc') (hy : y ≠ 0)
    (kk : Go p e below s cm sm Q T (mkF m pc' Ls (.int (x % y) :: St))) : Go p e below s cm sm Q T (mkF m pc Ls (.int y :: .int x :: St)) := by
  subst hp
  rw [← own_irem] at kk
  exact Go.st (fun t q => XS.irem (g := mkF m pc Ls (.int y :: .int x :: St)) X.here hx rfl hd rfl hy q) kk
theorem w_ldiv (X : Stand p l e R s m args below meth c T locs cells slots) (hx : p.tables.exec = Jvm.exec) {x y : Int64} (hd : decode c.code pc = .ok (.ldiv, 1)) (hp : pc + 1 = pc') (hy : y ≠ 0)
    (kk : Go p e below s cm sm Q T (mkF m pc' Ls (.long (x / y) :: St))) : Go p e below s cm sm Q T (mkF m pc Ls (.long y :: .long x :: St)) := by
  subst hp
  exact Go.st (fun t q => XS.ldiv (g := mkF m pc Ls (.long y :: .long x :: St)) X.here hx rfl hd rfl hy q) kk
theorem own_lrem (x y : Int64) : x - x / y * y = x % y := by
  apply Int64.toInt_inj.mp
  have h : x.toInt - x.toInt.tdiv y.toInt * y.toInt = x.toInt.tmod y.toInt := by
    have := Int.mul_tdiv_add_tmod x.toInt y.toInt
    rw [Int.mul_comm]; omega
  have hr := (x % y).toInt_lt
  have hl := (x % y).le_toInt
  rw [Int64.toInt_mod] at hr hl
  rw [Int64.toInt_sub, Int64.toInt_mul, Int64.toInt_div, Int64.toInt_mod, Int.bmod_mul_bmod, Int.sub_bmod_bmod, h, Jvm.Kit.bmod64 (by omega) (by omega)]
theorem w_lrem (X : Stand p l e R s m args below meth c T locs cells slots) (hx : p.tables.exec = Jvm.exec) {x y : Int64} (hd : decode c.code pc = .ok (.lrem, 1)) (hp : pc + 1 = pc') (hy : y ≠ 0)
    (kk : Go p e below s cm sm Q T (mkF m pc' Ls (.long (x % y) :: St))) : Go p e below s cm sm Q T (mkF m pc Ls (.long y :: .long x :: St)) := by
  subst hp
  rw [← own_lrem] at kk
  exact Go.st (fun t q => XS.lrem (g := mkF m pc Ls (.long y :: .long x :: St)) X.here hx rfl hd rfl hy q) kk
theorem w_ineg (X : Stand p l e R s m args below meth c T locs cells slots) (hx : p.tables.exec = Jvm.exec) {x : Int32} (hd : decode c.code pc = .ok (.ineg, 1)) (hp : pc + 1 = pc')
    (kk : Go p e below s cm sm Q T (mkF m pc' Ls (.int (-x) :: St))) : Go p e below s cm sm Q T (mkF m pc Ls (.int x :: St)) := by
  subst hp
  exact Go.st (fun t q => XS.ineg (g := mkF m pc Ls (.int x :: St)) X.here hx rfl hd rfl q) kk
theorem w_lneg (X : Stand p l e R s m args below meth c T locs cells slots) (hx : p.tables.exec = Jvm.exec) {x : Int64} (hd : decode c.code pc = .ok (.lneg, 1)) (hp : pc + 1 = pc')
    (kk : Go p e below s cm sm Q T (mkF m pc' Ls (.long (-x) :: St))) : Go p e below s cm sm Q T (mkF m pc Ls (.long x :: St)) := by
  subst hp
  exact Go.st (fun t q => XS.lneg (g := mkF m pc Ls (.long x :: St)) X.here hx rfl hd rfl q) kk
theorem w_i2l (X : Stand p l e R s m args below meth c T locs cells slots) (hx : p.tables.exec = Jvm.exec) {x : Int32} (hd : decode c.code pc = .ok (.i2l, 1)) (hp : pc + 1 = pc')
    (kk : Go p e below s cm sm Q T (mkF m pc' Ls (.long x.toInt64 :: St))) : Go p e below s cm sm Q T (mkF m pc Ls (.int x :: St)) := by
  subst hp
  exact Go.st (fun t q => XS.i2l (g := mkF m pc Ls (.int x :: St)) X.here hx rfl hd rfl q) kk
theorem w_l2i (X : Stand p l e R s m args below meth c T locs cells slots) (hx : p.tables.exec = Jvm.exec) {x : Int64} (hd : decode c.code pc = .ok (.l2i, 1)) (hp : pc + 1 = pc')
    (kk : Go p e below s cm sm Q T (mkF m pc' Ls (.int x.toInt32 :: St))) : Go p e below s cm sm Q T (mkF m pc Ls (.long x :: St)) := by
  subst hp
  exact Go.st (fun t q => XS.l2i (g := mkF m pc Ls (.long x :: St)) X.here hx rfl hd rfl q) kk
theorem w_i2b (X : Stand p l e R s m args below meth c T locs cells slots) (hx : p.tables.exec = Jvm.exec) {x : Int32} (hd : decode c.code pc = .ok (.i2b, 1)) (hp : pc + 1 = pc')
    (kk : Go p e below s cm sm Q T (mkF m pc' Ls (.int x.toInt8.toInt32 :: St))) : Go p e below s cm sm Q T (mkF m pc Ls (.int x :: St)) := by
  subst hp
  exact Go.st (fun t q => XS.i2b (g := mkF m pc Ls (.int x :: St)) X.here hx rfl hd rfl q) kk
theorem w_i2c (X : Stand p l e R s m args below meth c T locs cells slots) (hx : p.tables.exec = Jvm.exec) {x : Int32} (hd : decode c.code pc = .ok (.i2c, 1)) (hp : pc + 1 = pc')
    (kk : Go p e below s cm sm Q T (mkF m pc' Ls (.int x.toUInt32.toUInt16.toUInt32.toInt32 :: St))) : Go p e below s cm sm Q T (mkF m pc Ls (.int x :: St)) := by
  subst hp
  exact Go.st (fun t q => XS.i2c (g := mkF m pc Ls (.int x :: St)) X.here hx rfl hd rfl q) kk
theorem w_ishl (X : Stand p l e R s m args below meth c T locs cells slots) (hx : p.tables.exec = Jvm.exec) {x y : Int32} (hd : decode c.code pc = .ok (.ishl, 1)) (hp : pc + 1 = pc')
    (kk : Go p e below s cm sm Q T (mkF m pc' Ls (.int (x <<< (y &&& 31)) :: St))) : Go p e below s cm sm Q T (mkF m pc Ls (.int y :: .int x :: St)) := by
  subst hp
  exact Go.st (fun t q => XS.ishl (g := mkF m pc Ls (.int y :: .int x :: St)) X.here hx rfl hd rfl q) kk
theorem w_ishr (X : Stand p l e R s m args below meth c T locs cells slots) (hx : p.tables.exec = Jvm.exec) {x y : Int32} (hd : decode c.code pc = .ok (.ishr, 1)) (hp : pc + 1 = pc')
    (kk : Go p e below s cm sm Q T (mkF m pc' Ls (.int (x >>> (y &&& 31)) :: St))) : Go p e below s cm sm Q T (mkF m pc Ls (.int y :: .int x :: St)) := by
  subst hp
  exact Go.st (fun t q => XS.ishr (g := mkF m pc Ls (.int y :: .int x :: St)) X.here hx rfl hd rfl q) kk
theorem w_iushr (X : Stand p l e R s m args below meth c T locs cells slots) (hx : p.tables.exec = Jvm.exec) {x y : Int32} (hd : decode c.code pc = .ok (.iushr, 1)) (hp : pc + 1 = pc')
    (kk : Go p e below s cm sm Q T (mkF m pc' Ls (.int (jushr x y) :: St))) : Go p e below s cm sm Q T (mkF m pc Ls (.int y :: .int x :: St)) := by
  subst hp
  exact Go.st (fun t q => XS.iushr (g := mkF m pc Ls (.int y :: .int x :: St)) X.here hx rfl hd rfl q) kk
theorem w_lshl (X : Stand p l e R s m args below meth c T locs cells slots) (hx : p.tables.exec = Jvm.exec) {x : Int64} {y : Int32} (hd : decode c.code pc = .ok (.lshl, 1)) (hp : pc + 1 = pc')
    (kk : Go p e below s cm sm Q T (mkF m pc' Ls (.long (x <<< (y &&& 0x3f).toInt64) :: St))) : Go p e below s cm sm Q T (mkF m pc Ls (.int y :: .long x :: St)) := by
  subst hp
  exact Go.st (fun t q => XS.lshl (g := mkF m pc Ls (.int y :: .long x :: St)) X.here hx rfl hd rfl q) kk
theorem w_lshr (X : Stand p l e R s m args below meth c T locs cells slots) (hx : p.tables.exec = Jvm.exec) {x : Int64} {y : Int32} (hd : decode c.code pc = .ok (.lshr, 1)) (hp : pc + 1 = pc')
    (kk : Go p e below s cm sm Q T (mkF m pc' Ls (.long (x >>> (y &&& 0x3f).toInt64) :: St))) : Go p e below s cm sm Q T (mkF m pc Ls (.int y :: .long x :: St)) := by
  subst hp
  exact Go.st (fun t q => XS.lshr (g := mkF m pc Ls (.int y :: .long x :: St)) X.here hx rfl hd rfl q) kk
theorem w_lushr (X : Stand p l e R s m args below meth c T locs cells slots) (hx : p.tables.exec = Jvm.exec) {x : Int64} {y : Int32} (hd : decode c.code pc = .ok (.lushr, 1)) (hp : pc + 1 = pc')
    (kk : Go p e below s cm sm Q T (mkF m pc' Ls (.long (jlushr x y) :: St))) : Go p e below s cm sm Q T (mkF m pc Ls (.int y :: .long x :: St)) := by
  subst hp
  exact Go.st (fun t q => XS.lushr (g := mkF m pc Ls (.int y :: .long x :: St)) X.here hx rfl hd rfl q) kk
theorem w_lcmp (X : Stand p l e R s m args below meth c T locs cells slots) (hx : p.tables.exec = Jvm.exec) {x y : Int64} (hd : decode c.code pc = .ok (.lcmp, 1)) (hp : pc + 1 = pc')
    (kk : Go p e below s cm sm Q T (mkF m pc' Ls (.int (lcmpW x y) :: St))) : Go p e below s cm sm Q T (mkF m pc Ls (.long y :: .long x :: St)) := by
  subst hp
  exact Go.st (fun t q => XS.lcmp (g := mkF m pc Ls (.long y :: .long x :: St)) X.here hx rfl hd rfl q) kk
theorem w_dup (X : Stand p l e R s m args below meth c T locs cells slots) (hx : p.tables.exec = Jvm.exec) {x : Value} (hd : decode c.code pc = .ok (.dup, 1)) (hp : pc + 1 = pc') (hv : x.category = 1)
    (kk : Go p e below s cm sm Q T (mkF m pc' Ls (x :: x :: St))) : Go p e below s cm sm Q T (mkF m pc Ls (x :: St)) := by
  subst hp
  exact Go.st (fun t q => XS.dup (g := mkF m pc Ls (x :: St)) X.here hx rfl hd rfl hv q) kk
theorem w_pop (X : Stand p l e R s m args below meth c T locs cells slots) (hx : p.tables.exec = Jvm.exec) {x : Value} (hd : decode c.code pc = .ok (.pop, 1)) (hp : pc + 1 = pc') (hv : x.category = 1)
    (kk : Go p e below s cm sm Q T (mkF m pc' Ls (St))) : Go p e below s cm sm Q T (mkF m pc Ls (x :: St)) := by
  subst hp
  exact Go.st (fun t q => XS.pop (g := mkF m pc Ls (x :: St)) X.here hx rfl hd rfl hv q) kk
theorem w_dupX1 (X : Stand p l e R s m args below meth c T locs cells slots) (hx : p.tables.exec = Jvm.exec) {x y : Value} (hd : decode c.code pc = .ok (.dup_x1, 1)) (hp : pc + 1 = pc') (hv : x.category = 1) (hv' : y.category = 1)
    (kk : Go p e below s cm sm Q T (mkF m pc' Ls (x :: y :: x :: St))) : Go p e below s cm sm Q T (mkF m pc Ls (x :: y :: St)) := by
  subst hp
  exact Go.st (fun t q => XS.dupX1 (g := mkF m pc Ls (x :: y :: St)) X.here hx rfl hd rfl hv hv' q) kk
theorem w_iinc (X : Stand p l e R s m args below meth c T locs cells slots) (hx : p.tables.exec = Jvm.exec) {k : Nat} {cst : Int} {x w : Int32} (hd : decode c.code pc = .ok (.iinc k cst, 3)) (hp : pc + 3 = pc') (hl : Ls[k]? = some (.val (.int x))) (hv : Int32.ofInt cst = w) (hl' : storeLocals Ls k (.int (x + w)) = some Ls')
    (kk : Go p e below s cm sm Q T (mkF m pc' Ls' St)) : Go p e below s cm sm Q T (mkF m pc Ls St) := by
  subst hp hv
  exact Go.st (fun t q => XS.iinc (g := mkF m pc Ls St) X.here hx rfl hd hl hl' q) kk
theorem w_goto (X : Stand p l e R s m args below meth c T locs cells slots) (hx : p.tables.exec = Jvm.exec) {o : Int} (hd : decode c.code pc = .ok (.goto o, 3)) (ho : 0 ≤ (pc : Int) + o) (hp : ((pc : Int) + o).toNat = pc')
    (kk : Go p e below s cm sm Q T (mkF m pc' Ls St)) : Go p e below s cm sm Q T (mkF m pc Ls St) :=
  Go.st (fun t q => XS.goto (g := mkF m pc Ls St) X.here hx rfl (pc0 := pc) (pc' := pc') rfl hd ho hp q) kk
theorem w_icmp0 (X : Stand p l e R s m args below meth c T locs cells slots) (hx : p.tables.exec = Jvm.exec) {cd : ClassFile.Cond} {x y : Int32} {o : Int} {pt pf : Nat} (hd : decode c.code pc = .ok (.if_icmp cd o, 3)) (hf : pc + 3 = pf) (ho : 0 ≤ (pc : Int) + o) (hp : ((pc : Int) + o).toNat = pt)
    (kT : if_icmp.holds cd x y = true → Go p e below s cm sm Q T (mkF m pt Ls St)) (kF : if_icmp.holds cd x y = false → Go p e below s cm sm Q T (mkF m pf Ls St)) : Go p e below s cm sm Q T (mkF m pc Ls (.int y :: .int x :: St)) := by
  subst hf
  cases hc : if_icmp.holds cd x y with
  | true => exact Go.st (fun t q => XS.icmpYes (g := mkF m pc Ls (.int y :: .int x :: St)) X.here hx rfl (pc0 := pc) (pc' := pt) rfl hd rfl hc ho hp q) (kT hc)
  | false => exact Go.st (fun t q => XS.icmpNo (g := mkF m pc Ls (.int y :: .int x :: St)) X.here hx rfl hd rfl hc q) (kF hc)
theorem w_if0 (X : Stand p l e R s m args below meth c T locs cells slots) (hx : p.tables.exec = Jvm.exec) {cd : ClassFile.Cond} {x : Int32} {o : Int} {pt pf : Nat} (hd : decode c.code pc = .ok (.ifCond cd o, 3)) (hf : pc + 3 = pf) (ho : 0 ≤ (pc : Int) + o) (hp : ((pc : Int) + o).toNat = pt)
    (kT : if_icmp.holds cd x 0 = true → Go p e below s cm sm Q T (mkF m pt Ls St)) (kF : if_icmp.holds cd x 0 = false → Go p e below s cm sm Q T (mkF m pf Ls St)) : Go p e below s cm sm Q T (mkF m pc Ls (.int x :: St)) := by
  subst hf
  cases hc : if_icmp.holds cd x 0 with
  | true => exact Go.st (fun t q => XS.ifYes (g := mkF m pc Ls (.int x :: St)) X.here hx rfl (pc0 := pc) (pc' := pt) rfl hd rfl ((if0 _ _).trans hc) ho hp q) (kT hc)
  | false => exact Go.st (fun t q => XS.ifNo (g := mkF m pc Ls (.int x :: St)) X.here hx rfl hd rfl ((if0 _ _).trans hc) q) (kF hc)
theorem h_lt {x y : Int32} : (if_icmp.holds .lt x y = true → x < y) ∧ (if_icmp.holds .lt x y = false → ¬ x < y) := ⟨fun h => Decidable.byContradiction fun q => by simp [(flt q).1] at h, fun h q => by simp [(tlt q).1] at h⟩
theorem h_ge {x y : Int32} : (if_icmp.holds .ge x y = true → ¬ x < y) ∧ (if_icmp.holds .ge x y = false → x < y) := ⟨fun h q => by simp [(tlt q).2.1] at h, fun h => Decidable.byContradiction fun q => by simp [(flt q).2.1] at h⟩
theorem h_gt {x y : Int32} : (if_icmp.holds .gt x y = true → y < x) ∧ (if_icmp.holds .gt x y = false → ¬ y < x) := ⟨fun h => Decidable.byContradiction fun q => by simp [(flt q).2.2.1] at h, fun h q => by simp [(tlt q).2.2.1] at h⟩
theorem h_le {x y : Int32} : (if_icmp.holds .le x y = true → ¬ y < x) ∧ (if_icmp.holds .le x y = false → y < x) := ⟨fun h q => by simp [(tlt q).2.2.2] at h, fun h => Decidable.byContradiction fun q => by simp [(flt q).2.2.2] at h⟩
theorem h_eq {x y : Int32} : (if_icmp.holds .eq x y = true → x = y) ∧ (if_icmp.holds .eq x y = false → ¬ x = y) := ⟨fun h => Decidable.byContradiction fun q => by simp [(feq q).1] at h, fun h q => by simp [(teq q).1] at h⟩
theorem h_ne {x y : Int32} : (if_icmp.holds .ne x y = true → ¬ x = y) ∧ (if_icmp.holds .ne x y = false → x = y) := ⟨fun h q => by simp [(teq q).2] at h, fun h => Decidable.byContradiction fun q => by simp [(feq q).2] at h⟩
theorem w_icmp_lt (X : Stand p l e R s m args below meth c T locs cells slots) (hx : p.tables.exec = Jvm.exec) {x y : Int32} {o : Int} {pt pf : Nat} (hd : decode c.code pc = .ok (.if_icmp .lt o, 3)) (hf : pc + 3 = pf) (ho : 0 ≤ (pc : Int) + o) (hp : ((pc : Int) + o).toNat = pt)
    (kT : x < y → Go p e below s cm sm Q T (mkF m pt Ls St)) (kF : ¬ (x < y) → Go p e below s cm sm Q T (mkF m pf Ls St)) : Go p e below s cm sm Q T (mkF m pc Ls (.int y :: .int x :: St)) :=
  w_icmp0 X hx hd hf ho hp (fun h => kT (h_lt.1 h)) (fun h => kF (h_lt.2 h))
theorem w_if_lt (X : Stand p l e R s m args below meth c T locs cells slots) (hx : p.tables.exec = Jvm.exec) {x : Int32} {o : Int} {pt pf : Nat} (hd : decode c.code pc = .ok (.ifCond .lt o, 3)) (hf : pc + 3 = pf) (ho : 0 ≤ (pc : Int) + o) (hp : ((pc : Int) + o).toNat = pt)
    (kT : x < 0 → Go p e below s cm sm Q T (mkF m pt Ls St)) (kF : ¬ (x < 0) → Go p e below s cm sm Q T (mkF m pf Ls St)) : Go p e below s cm sm Q T (mkF m pc Ls (.int x :: St)) :=
  w_if0 X hx hd hf ho hp (fun h => kT (h_lt.1 h)) (fun h => kF (h_lt.2 h))
theorem w_ifL_lt (X : Stand p l e R s m args below meth c T locs cells slots) (hx : p.tables.exec = Jvm.exec) {x y : Int64} {o : Int} {pt pf : Nat} (hd : decode c.code pc = .ok (.ifCond .lt o, 3)) (hf : pc + 3 = pf) (ho : 0 ≤ (pc : Int) + o) (hp : ((pc : Int) + o).toNat = pt)
    (kT : x < y → Go p e below s cm sm Q T (mkF m pt Ls St)) (kF : ¬ (x < y) → Go p e below s cm sm Q T (mkF m pf Ls St)) : Go p e below s cm sm Q T (mkF m pc Ls (.int (lcmpW x y) :: St)) :=
  w_if_lt X hx hd hf ho hp (fun q => kT ((lw_lt x y).1 q)) (fun q => kF (fun r => q ((lw_lt x y).2 r)))
theorem w_icmp_ge (X : Stand p l e R s m args below meth c T locs cells slots) (hx : p.tables.exec = Jvm.exec) {x y : Int32} {o : Int} {pt pf : Nat} (hd : decode c.code pc = .ok (.if_icmp .ge o, 3)) (hf : pc + 3 = pf) (ho : 0 ≤ (pc : Int) + o) (hp : ((pc : Int) + o).toNat = pt)
    (kT : ¬ (x < y) → Go p e below s cm sm Q T (mkF m pt Ls St)) (kF : x < y → Go p e below s cm sm Q T (mkF m pf Ls St)) : Go p e below s cm sm Q T (mkF m pc Ls (.int y :: .int x :: St)) :=
  w_icmp0 X hx hd hf ho hp (fun h => kT (h_ge.1 h)) (fun h => kF (h_ge.2 h))
theorem w_if_ge (X : Stand p l e R s m args below meth c T locs cells slots) (hx : p.tables.exec = Jvm.exec) {x : Int32} {o : Int} {pt pf : Nat} (hd : decode c.code pc = .ok (.ifCond .ge o, 3)) (hf : pc + 3 = pf) (ho : 0 ≤ (pc : Int) + o) (hp : ((pc : Int) + o).toNat = pt)
    (kT : ¬ (x < 0) → Go p e below s cm sm Q T (mkF m pt Ls St)) (kF : x < 0 → Go p e below s cm sm Q T (mkF m pf Ls St)) : Go p e below s cm sm Q T (mkF m pc Ls (.int x :: St)) :=
  w_if0 X hx hd hf ho hp (fun h => kT (h_ge.1 h)) (fun h => kF (h_ge.2 h))
theorem w_ifL_ge (X : Stand p l e R s m args below meth c T locs cells slots) (hx : p.tables.exec = Jvm.exec) {x y : Int64} {o : Int} {pt pf : Nat} (hd : decode c.code pc = .ok (.ifCond .ge o, 3)) (hf : pc + 3 = pf) (ho : 0 ≤ (pc : Int) + o) (hp : ((pc : Int) + o).toNat = pt)
    (kT : ¬ (x < y) → Go p e below s cm sm Q T (mkF m pt Ls St)) (kF : x < y → Go p e below s cm sm Q T (mkF m pf Ls St)) : Go p e below s cm sm Q T (mkF m pc Ls (.int (lcmpW x y) :: St)) :=
  w_if_ge X hx hd hf ho hp (fun q => kT (fun r => q ((lw_lt x y).2 r))) (fun q => kF ((lw_lt x y).1 q))
theorem w_icmp_gt (X : Stand p l e R s m args below meth c T locs cells slots) (hx : p.tables.exec = Jvm.exec) {x y : Int32} {o : Int} {pt pf : Nat} (hd : decode c.code pc = .ok (.if_icmp .gt o, 3)) (hf : pc + 3 = pf) (ho : 0 ≤ (pc : Int) + o) (hp : ((pc : Int) + o).toNat = pt)
    (kT : y < x → Go p e below s cm sm Q T (mkF m pt Ls St)) (kF : ¬ (y < x) → Go p e below s cm sm Q T (mkF m pf Ls St)) : Go p e below s cm sm Q T (mkF m pc Ls (.int y :: .int x :: St)) :=
  w_icmp0 X hx hd hf ho hp (fun h => kT (h_gt.1 h)) (fun h => kF (h_gt.2 h))
theorem w_if_gt (X : Stand p l e R s m args below meth c T locs cells slots) (hx : p.tables.exec = Jvm.exec) {x : Int32} {o : Int} {pt pf : Nat} (hd : decode c.code pc = .ok (.ifCond .gt o, 3)) (hf : pc + 3 = pf) (ho : 0 ≤ (pc : Int) + o) (hp : ((pc : Int) + o).toNat = pt)
    (kT : 0 < x → Go p e below s cm sm Q T (mkF m pt Ls St)) (kF : ¬ (0 < x) → Go p e below s cm sm Q T (mkF m pf Ls St)) : Go p e below s cm sm Q T (mkF m pc Ls (.int x :: St)) :=
  w_if0 X hx hd hf ho hp (fun h => kT (h_gt.1 h)) (fun h => kF (h_gt.2 h))
theorem w_ifL_gt (X : Stand p l e R s m args below meth c T locs cells slots) (hx : p.tables.exec = Jvm.exec) {x y : Int64} {o : Int} {pt pf : Nat} (hd : decode c.code pc = .ok (.ifCond .gt o, 3)) (hf : pc + 3 = pf) (ho : 0 ≤ (pc : Int) + o) (hp : ((pc : Int) + o).toNat = pt)
    (kT : y < x → Go p e below s cm sm Q T (mkF m pt Ls St)) (kF : ¬ (y < x) → Go p e below s cm sm Q T (mkF m pf Ls St)) : Go p e below s cm sm Q T (mkF m pc Ls (.int (lcmpW x y) :: St)) :=
  w_if_gt X hx hd hf ho hp (fun q => kT ((lw_gt x y).1 q)) (fun q => kF (fun r => q ((lw_gt x y).2 r)))
theorem w_icmp_le (X : Stand p l e R s m args below meth c T locs cells slots) (hx : p.tables.exec = Jvm.exec) {x y : Int32} {o : Int} {pt pf : Nat} (hd : decode c.code pc = .ok (.if_icmp .le o, 3)) (hf : pc + 3 = pf) (ho : 0 ≤ (pc : Int) + o) (hp : ((pc : Int) + o).toNat = pt)
    (kT : ¬ (y < x) → Go p e below s cm sm Q T (mkF m pt Ls St)) (kF : y < x → Go p e below s cm sm Q T (mkF m pf Ls St)) : Go p e below s cm sm Q T (mkF m pc Ls (.int y :: .int x :: St)) :=
  w_icmp0 X hx hd hf ho hp (fun h => kT (h_le.1 h)) (fun h => kF (h_le.2 h))
theorem w_if_le (X : Stand p l e R s m args below meth c T locs cells slots) (hx : p.tables.exec = Jvm.exec) {x : Int32} {o : Int} {pt pf : Nat} (hd : decode c.code pc = .ok (.ifCond .le o, 3)) (hf : pc + 3 = pf) (ho : 0 ≤ (pc : Int) + o) (hp : ((pc : Int) + o).toNat = pt)
    (kT : ¬ (0 < x) → Go p e below s cm sm Q T (mkF m pt Ls St)) (kF : 0 < x → Go p e below s cm sm Q T (mkF m pf Ls St)) : Go p e below s cm sm Q T (mkF m pc Ls (.int x :: St)) :=
  w_if0 X hx hd hf ho hp (fun h => kT (h_le.1 h)) (fun h => kF (h_le.2 h))
theorem w_ifL_le (X : Stand p l e R s m args below meth c T locs cells slots) (hx : p.tables.exec = Jvm.exec) {x y : Int64} {o : Int} {pt pf : Nat} (hd : decode c.code pc = .ok (.ifCond .le o, 3)) (hf : pc + 3 = pf) (ho : 0 ≤ (pc : Int) + o) (hp : ((pc : Int) + o).toNat = pt)
    (kT : ¬ (y < x) → Go p e below s cm sm Q T (mkF m pt Ls St)) (kF : y < x → Go p e below s cm sm Q T (mkF m pf Ls St)) : Go p e below s cm sm Q T (mkF m pc Ls (.int (lcmpW x y) :: St)) :=
  w_if_le X hx hd hf ho hp (fun q => kT (fun r => q ((lw_gt x y).2 r))) (fun q => kF ((lw_gt x y).1 q))
theorem w_icmp_eq (X : Stand p l e R s m args below meth c T locs cells slots) (hx : p.tables.exec = Jvm.exec) {x y : Int32} {o : Int} {pt pf : Nat} (hd : decode c.code pc = .ok (.if_icmp .eq o, 3)) (hf : pc + 3 = pf) (ho : 0 ≤ (pc : Int) + o) (hp : ((pc : Int) + o).toNat = pt)
    (kT : x = y → Go p e below s cm sm Q T (mkF m pt Ls St)) (kF : ¬ (x = y) → Go p e below s cm sm Q T (mkF m pf Ls St)) : Go p e below s cm sm Q T (mkF m pc Ls (.int y :: .int x :: St)) :=
  w_icmp0 X hx hd hf ho hp (fun h => kT (h_eq.1 h)) (fun h => kF (h_eq.2 h))
theorem w_if_eq (X : Stand p l e R s m args below meth c T locs cells slots) (hx : p.tables.exec = Jvm.exec) {x : Int32} {o : Int} {pt pf : Nat} (hd : decode c.code pc = .ok (.ifCond .eq o, 3)) (hf : pc + 3 = pf) (ho : 0 ≤ (pc : Int) + o) (hp : ((pc : Int) + o).toNat = pt)
    (kT : x = 0 → Go p e below s cm sm Q T (mkF m pt Ls St)) (kF : ¬ (x = 0) → Go p e below s cm sm Q T (mkF m pf Ls St)) : Go p e below s cm sm Q T (mkF m pc Ls (.int x :: St)) :=
  w_if0 X hx hd hf ho hp (fun h => kT (h_eq.1 h)) (fun h => kF (h_eq.2 h))
theorem w_ifL_eq (X : Stand p l e R s m args below meth c T locs cells slots) (hx : p.tables.exec = Jvm.exec) {x y : Int64} {o : Int} {pt pf : Nat} (hd : decode c.code pc = .ok (.ifCond .eq o, 3)) (hf : pc + 3 = pf) (ho : 0 ≤ (pc : Int) + o) (hp : ((pc : Int) + o).toNat = pt)
    (kT : x = y → Go p e below s cm sm Q T (mkF m pt Ls St)) (kF : ¬ (x = y) → Go p e below s cm sm Q T (mkF m pf Ls St)) : Go p e below s cm sm Q T (mkF m pc Ls (.int (lcmpW x y) :: St)) :=
  w_if_eq X hx hd hf ho hp (fun q => kT ((lw_eq x y).1 q)) (fun q => kF (fun r => q ((lw_eq x y).2 r)))
theorem w_icmp_ne (X : Stand p l e R s m args below meth c T locs cells slots) (hx : p.tables.exec = Jvm.exec) {x y : Int32} {o : Int} {pt pf : Nat} (hd : decode c.code pc = .ok (.if_icmp .ne o, 3)) (hf : pc + 3 = pf) (ho : 0 ≤ (pc : Int) + o) (hp : ((pc : Int) + o).toNat = pt)
    (kT : ¬ (x = y) → Go p e below s cm sm Q T (mkF m pt Ls St)) (kF : x = y → Go p e below s cm sm Q T (mkF m pf Ls St)) : Go p e below s cm sm Q T (mkF m pc Ls (.int y :: .int x :: St)) :=
  w_icmp0 X hx hd hf ho hp (fun h => kT (h_ne.1 h)) (fun h => kF (h_ne.2 h))
theorem w_if_ne (X : Stand p l e R s m args below meth c T locs cells slots) (hx : p.tables.exec = Jvm.exec) {x : Int32} {o : Int} {pt pf : Nat} (hd : decode c.code pc = .ok (.ifCond .ne o, 3)) (hf : pc + 3 = pf) (ho : 0 ≤ (pc : Int) + o) (hp : ((pc : Int) + o).toNat = pt)
    (kT : ¬ (x = 0) → Go p e below s cm sm Q T (mkF m pt Ls St)) (kF : x = 0 → Go p e below s cm sm Q T (mkF m pf Ls St)) : Go p e below s cm sm Q T (mkF m pc Ls (.int x :: St)) :=
  w_if0 X hx hd hf ho hp (fun h => kT (h_ne.1 h)) (fun h => kF (h_ne.2 h))
theorem w_ifL_ne (X : Stand p l e R s m args below meth c T locs cells slots) (hx : p.tables.exec = Jvm.exec) {x y : Int64} {o : Int} {pt pf : Nat} (hd : decode c.code pc = .ok (.ifCond .ne o, 3)) (hf : pc + 3 = pf) (ho : 0 ≤ (pc : Int) + o) (hp : ((pc : Int) + o).toNat = pt)
    (kT : ¬ (x = y) → Go p e below s cm sm Q T (mkF m pt Ls St)) (kF : x = y → Go p e below s cm sm Q T (mkF m pf Ls St)) : Go p e below s cm sm Q T (mkF m pc Ls (.int (lcmpW x y) :: St)) :=
  w_if_ne X hx hd hf ho hp (fun q => kT (fun r => q ((lw_eq x y).2 r))) (fun q => kF ((lw_eq x y).1 q))
theorem w_ldc (X : Stand p l e R s m args below meth c T locs cells slots) (hx : p.tables.exec = Jvm.exec) (hZ : Z.Warmed39 s.vm) {own : String} {index : Nat} {v : Int32} (hown : s.vm.findClass own = some m.cls) (w : (Jvm.Cond.constant own index v).before a0 Z = true) (hd : decode c.code pc = .ok (.ldc index, 2)) (hp : pc + 2 = pc')
    (kk : Go p e below s cm sm Q T (mkF m pc' Ls (.int v :: St))) : Go p e below s cm sm Q T (mkF m pc Ls St) := by
  subst hp
  exact Go.st (fun t q => X.ldcInt hx hown (mvT hZ w) (g := mkF m pc Ls St) rfl hd t q) kk
theorem w_ldcw (X : Stand p l e R s m args below meth c T locs cells slots) (hx : p.tables.exec = Jvm.exec) (hZ : Z.Warmed39 s.vm) {own : String} {index : Nat} {v : Int32} (hown : s.vm.findClass own = some m.cls) (w : (Jvm.Cond.constant own index v).before a0 Z = true) (hd : decode c.code pc = .ok (.ldc_w index, 3)) (hp : pc + 3 = pc')
    (kk : Go p e below s cm sm Q T (mkF m pc' Ls (.int v :: St))) : Go p e below s cm sm Q T (mkF m pc Ls St) := by
  subst hp
  exact Go.st (fun t q => X.ldcWI hx hown (mvT hZ w) (g := mkF m pc Ls St) rfl hd q) kk
theorem w_ldc2 (X : Stand p l e R s m args below meth c T locs cells slots) (hx : p.tables.exec = Jvm.exec) (hZ : Z.Warmed39 s.vm) {own : String} {index : Nat} {v : Int64} (hown : s.vm.findClass own = some m.cls) (w : (Jvm.Cond.constantLong own index v).before a0 Z = true) (hd : decode c.code pc = .ok (.ldc2_w index, 3)) (hp : pc + 3 = pc')
    (kk : Go p e below s cm sm Q T (mkF m pc' Ls (.long v :: St))) : Go p e below s cm sm Q T (mkF m pc Ls St) := by
  subst hp
  exact Go.st (fun t q => X.ldc2Long hx hown (mvT hZ w) (g := mkF m pc Ls St) rfl hd t q) kk
theorem w_retZ (X : Stand p l e R s m args below meth c T locs cells slots) (hx : p.tables.exec = Jvm.exec) (hret : meth.sig.returnType = some .boolean) (hlk : meth.locks = false) {z : Int32} (hd : decode c.code pc = .ok (.ireturn, 1)) (hc : cells ≤ cm) (hs : slots ≤ sm) (hQ : Q (some (.int (nar .boolean z))) T.heap locs) : Go p e below s cm sm Q T (mkF m pc Ls (.int z :: St)) := by
  obtain ⟨fs, hr, hrun, hended, hW, hsame⟩ := X.leave (v := some (.int (nar .boolean z))) (fun h => by rw [hret] at h; cases h) hlk
  exact ⟨_, _, retN X hx (t := .boolean) hret (by simp) hd hr, hrun, hended, _, _, rfl, hQ, ⟨_, rfl⟩, hW, hsame.mono hc hs⟩
theorem w_retB (X : Stand p l e R s m args below meth c T locs cells slots) (hx : p.tables.exec = Jvm.exec) (hret : meth.sig.returnType = some .byte) (hlk : meth.locks = false) {z : Int32} (hd : decode c.code pc = .ok (.ireturn, 1)) (hc : cells ≤ cm) (hs : slots ≤ sm) (hQ : Q (some (.int (nar .byte z))) T.heap locs) : Go p e below s cm sm Q T (mkF m pc Ls (.int z :: St)) := by
  obtain ⟨fs, hr, hrun, hended, hW, hsame⟩ := X.leave (v := some (.int (nar .byte z))) (fun h => by rw [hret] at h; cases h) hlk
  exact ⟨_, _, retN X hx (t := .byte) hret (by simp) hd hr, hrun, hended, _, _, rfl, hQ, ⟨_, rfl⟩, hW, hsame.mono hc hs⟩
theorem w_retC (X : Stand p l e R s m args below meth c T locs cells slots) (hx : p.tables.exec = Jvm.exec) (hret : meth.sig.returnType = some .char) (hlk : meth.locks = false) {z : Int32} (hd : decode c.code pc = .ok (.ireturn, 1)) (hc : cells ≤ cm) (hs : slots ≤ sm) (hQ : Q (some (.int (nar .char z))) T.heap locs) : Go p e below s cm sm Q T (mkF m pc Ls (.int z :: St)) := by
  obtain ⟨fs, hr, hrun, hended, hW, hsame⟩ := X.leave (v := some (.int (nar .char z))) (fun h => by rw [hret] at h; cases h) hlk
  exact ⟨_, _, retN X hx (t := .char) hret (by simp) hd hr, hrun, hended, _, _, rfl, hQ, ⟨_, rfl⟩, hW, hsame.mono hc hs⟩
theorem w_retS (X : Stand p l e R s m args below meth c T locs cells slots) (hx : p.tables.exec = Jvm.exec) (hret : meth.sig.returnType = some .short) (hlk : meth.locks = false) {z : Int32} (hd : decode c.code pc = .ok (.ireturn, 1)) (hc : cells ≤ cm) (hs : slots ≤ sm) (hQ : Q (some (.int (nar .short z))) T.heap locs) : Go p e below s cm sm Q T (mkF m pc Ls (.int z :: St)) := by
  obtain ⟨fs, hr, hrun, hended, hW, hsame⟩ := X.leave (v := some (.int (nar .short z))) (fun h => by rw [hret] at h; cases h) hlk
  exact ⟨_, _, retN X hx (t := .short) hret (by simp) hd hr, hrun, hended, _, _, rfl, hQ, ⟨_, rfl⟩, hW, hsame.mono hc hs⟩
theorem w_retI (X : Stand p l e R s m args below meth c T locs cells slots) (hx : p.tables.exec = Jvm.exec) (hret : meth.sig.returnType = some .int) (hlk : meth.locks = false) {z : Int32} (hd : decode c.code pc = .ok (.ireturn, 1)) (hc : cells ≤ cm) (hs : slots ≤ sm) (hQ : Q (some (.int z)) T.heap locs) : Go p e below s cm sm Q T (mkF m pc Ls (.int z :: St)) := by
  obtain ⟨fs, hr, hrun, hended, hW, hsame⟩ := X.leave (v := some (.int z)) (fun h => by rw [hret] at h; cases h) hlk
  refine ⟨T.setFrames fs, _, ?_, hrun, hended, _, _, rfl, hQ, ⟨_, rfl⟩, hW, hsame.mono hc hs⟩
  have hm' : T.vm.method? m = some meth := X.method'
  have hn : narrow .int (.int z) = .int z := rfl
  show Steps p.tables e below (T.setTop { method := m, pc := pc, locals := Ls, stack := .int z :: St, locked := none }) _
  jvm_step X.here [X.here.top, hx, hd, hm', hret, hn]
  first | (intro acts; rw [hr _ acts rfl rfl rfl]) | rw [hr _ _ rfl rfl rfl]
  exact Steps.refl _
theorem w_retJ (X : Stand p l e R s m args below meth c T locs cells slots) (hx : p.tables.exec = Jvm.exec) (hret : meth.sig.returnType = some .long) (hlk : meth.locks = false) {z : Int64} (hd : decode c.code pc = .ok (.lreturn, 1)) (hc : cells ≤ cm) (hs : slots ≤ sm) (hQ : Q (some (.long z)) T.heap locs) : Go p e below s cm sm Q T (mkF m pc Ls [.long z]) := by
  obtain ⟨fs, hr, hrun, hended, hW, hsame⟩ := X.leave (v := some (.long z)) (fun h => by rw [hret] at h; cases h) hlk
  exact ⟨T.setFrames fs, _, X.lreturnOut hx hret hd hr, hrun, hended, _, _, rfl, hQ, ⟨_, rfl⟩, hW, hsame.mono hc hs⟩
theorem w_retV (X : Stand p l e R s m args below meth c T locs cells slots) (hx : p.tables.exec = Jvm.exec) (hret : meth.sig.returnType = none) (hlk : meth.locks = false) (hd : decode c.code pc = .ok (.return_, 1)) (hc : cells ≤ cm) (hs : slots ≤ sm) (hQ : Q none T.heap locs) : Go p e below s cm sm Q T (mkF m pc Ls []) := by
  obtain ⟨fs, hr, hrun, hended, hW, hsame⟩ := X.leave (v := none) (fun _ => rfl) hlk
  exact ⟨T.setFrames fs, _, X.returnOut hx hret hd hr, hrun, hended, _, _, rfl, hQ, ⟨_, rfl⟩, hW, hsame.mono hc hs⟩
theorem w_retA (X : Stand p l e R s m args below meth c T locs cells slots) (hx : p.tables.exec = Jvm.exec) {rt : FieldType} (hret : meth.sig.returnType = some rt) (hrt : rt.isReference = true) (hlk : meth.locks = false) {a : Addr} (hd : decode c.code pc = .ok (.areturn, 1)) (hc : cells ≤ cm) (hs : slots ≤ sm) (hQ : Q (some (.ref a)) T.heap locs) : Go p e below s cm sm Q T (mkF m pc Ls (.ref a :: St)) := by
  obtain ⟨fs, hr, hrun, hended, hW, hsame⟩ := X.leave (v := some (.ref a)) (fun h => by rw [hret] at h; cases h) hlk
  refine ⟨T.setFrames fs, _, ?_, hrun, hended, _, _, rfl, hQ, ⟨_, rfl⟩, hW, hsame.mono hc hs⟩
  have hm' : T.vm.method? m = some meth := X.method'
  show Steps p.tables e below (T.setTop { method := m, pc := pc, locals := Ls, stack := .ref a :: St, locked := none }) _
  jvm_step X.here [X.here.top, hx, hd, hm', hret, Value.isRef, hrt]
  first | (intro acts; rw [hr _ acts rfl rfl rfl]) | rw [hr _ _ rfl rfl rfl]
  exact Steps.refl _
theorem Con.back {y : MethodName} {bytes : ByteArray} {maxL : Nat} {ret : Option FieldType} {rm : Room} {len W : Nat} {as' : Array Value} {Qc : Option Value → Heap → List Loc → Prop} (C : Con l Z y bytes maxL ret rm as' h Qc) (hZ : Z.Warmed39 s.vm) (wc : (Jvm.Cond.code y bytes maxL ret).before a0 Z = true) (wz : (Jvm.Cond.initialized y.cls).before a0 Z = true) (hf : rm.frames + 1 ≤ R.frames) (hl : W + (maxL + 11) + rm.locals ≤ R.locals) :
    Back l R p e below s args y len W (fun A a => a = as' ∧ A.U.heap = h ∧ A.cells + rm.cells ≤ R.cells ∧ A.slots + rm.slots ≤ R.slots) (fun A _ v B => ∃ L, Qc v B.U.heap L ∧ B.locs = A.locs ++ L ∧ B.cells = A.cells + rm.cells ∧ B.slots = A.slots + rm.slots) :=
  backOf (C []) hZ wc wz hf hl
theorem w_callS (X : Stand p l e R s m args below meth c T locs cells slots) (hx : p.tables.exec = Jvm.exec) (hZ : Z.Warmed39 s.vm) {own : String} {index : Nat} {y : MethodName} {bytes : ByteArray} {maxL : Nat} {ret : Option FieldType} {rm : Room} {W : Nat} {argsL rest : List Value} {Qc : Option Value → Heap → List Loc → Prop} (hown : s.vm.findClass own = some m.cls) (eT : T.heap = h) (C : Con l Z y bytes maxL ret rm argsL.toArray h Qc) (w1 : (Jvm.Cond.methodLink own index y).before a0 Z = true) (w2 : (Jvm.Cond.static y).before a0 Z = true) (w3 : (Jvm.Cond.initialized y.cls).before a0 Z = true) (w4 : (Jvm.Cond.code y bytes maxL ret).before a0 Z = true) (hy : y.cls ≠ "java/lang/invoke/MethodHandle" ∧ y.cls ≠ "java/lang/invoke/VarHandle")
    (hf : rm.frames + 1 ≤ R.frames) (hl : W + (maxL + 11) + rm.locals ≤ R.locals) (hc : cells + rm.cells ≤ R.cells) (hs : slots + rm.slots ≤ R.slots) (hsz : Ls.size = c.maxLocals) (hlen : ∀ sig, parseMethodDescriptor y.desc = some sig → argsL.length = sig.parameters.length) (hW : (rest.map fun v => v.category).sum ≤ W) (hst : St = argsL.reverse ++ rest) (hd : decode c.code pc = .ok (.invokestatic index, 3)) (hp : pc + 3 = pc')
    (kk : ∀ (T' : State) (L : List Loc) (v : Option Value), Stand p l e R s m args below meth c T' (locs ++ L) (cells + rm.cells) (slots + rm.slots) → Qc v T'.heap L → Go p e below s cm sm Q T' (mkF m pc' Ls (v.toList ++ rest))) : Go p e below s cm sm Q T (mkF m pc Ls St) := by
  subst hp hst
  obtain ⟨v, _, ⟨T1, L1, k1, n1⟩, -, X1, ⟨Lc, hQ, l1, y1, z1⟩, st⟩ := Jvm.LawKit.callS X hx (y := y) hown (mvT hZ w1) (mvT hZ w2) (mvT hZ w3) (mvT hZ w4) hy (C.back (W := W) hZ w4 w3 hf hl) (g := mkF m pc Ls (argsL.reverse ++ rest)) rfl hsz (argsL := argsL) (rest := rest) hlen rfl (by show 2 * 0 + _ ≤ _; rw [Nat.mul_zero, Nat.zero_add]; exact hW) hd (fun _ _ => ⟨rfl, eT, hc, hs⟩)
  dsimp only [Pt.U, Pt.locs, Pt.cells, Pt.slots] at X1 l1 y1 z1 st hQ
  subst l1 y1 z1
  exact Go.st st (kk _ _ _ X1 hQ)
theorem w_callI (X : Stand p l e R s m args below meth c T locs cells slots) (hx : p.tables.exec = Jvm.exec) (hZ : Z.Warmed39 s.vm) {own : String} {index : Nat} {y : MethodName} {bytes : ByteArray} {maxL : Nat} {rm : Room} {W : Nat} {argsL rest : List Value} {Qc : Option Value → Heap → List Loc → Prop} {a : Addr} (hown : s.vm.findClass own = some m.cls) (eT : T.heap = h) (C : Con l Z y bytes maxL none rm (.ref a :: argsL).toArray h Qc) (hn : y.name = "<init>") (w1 : (Jvm.Cond.methodLink own index y).before a0 Z = true) (w2 : (Jvm.Cond.instanceMethod y).before a0 Z = true) (w3 : (Jvm.Cond.initialized y.cls).before a0 Z = true) (w4 : (Jvm.Cond.code y bytes maxL none).before a0 Z = true) (hy : y.cls ≠ "java/lang/invoke/MethodHandle" ∧ y.cls ≠ "java/lang/invoke/VarHandle")
    (hf : rm.frames + 1 ≤ R.frames) (hl : W + (maxL + 11) + rm.locals ≤ R.locals) (hc : cells + rm.cells ≤ R.cells) (hs : slots + rm.slots ≤ R.slots) (hsz : Ls.size = c.maxLocals) (hlen : ∀ sig, parseMethodDescriptor y.desc = some sig → argsL.length = sig.parameters.length) (hW : (rest.map fun v => v.category).sum ≤ W) (hst : St = argsL.reverse ++ .ref a :: rest) (hd : decode c.code pc = .ok (.invokespecial index, 3)) (hp : pc + 3 = pc')
    (kk : ∀ (T' : State) (L : List Loc) (v : Option Value), Stand p l e R s m args below meth c T' (locs ++ L) (cells + rm.cells) (slots + rm.slots) → Qc v T'.heap L → Go p e below s cm sm Q T' (mkF m pc' Ls (v.toList ++ rest))) : Go p e below s cm sm Q T (mkF m pc Ls St) := by
  subst hp hst
  obtain ⟨v, _, ⟨T1, L1, k1, n1⟩, -, X1, ⟨Lc, hQ, l1, y1, z1⟩, st⟩ := X.specialBack hx (y := y) hn hown (mvT hZ w1) (mvT hZ w2) (mvT hZ w4) hy (C.back (W := W) hZ w4 w3 hf hl) (g := mkF m pc Ls (argsL.reverse ++ .ref a :: rest)) rfl hsz (Steps.refl _) (a := a) (argsL := argsL) (rest := rest) hlen rfl (by show 2 * 0 + _ ≤ _; rw [Nat.mul_zero, Nat.zero_add]; exact hW) hd (fun _ _ => ⟨rfl, eT, hc, hs⟩)
  dsimp only [Pt.U, Pt.locs, Pt.cells, Pt.slots] at X1 l1 y1 z1 st hQ
  subst l1 y1 z1
  exact Go.st (fun t q => st.trans q) (kk _ _ _ X1 hQ)
theorem w_callV (X : Stand p l e R s m args below meth c T locs cells slots) (hx : p.tables.exec = Jvm.exec) (hZ : Z.Warmed39 s.vm) {own : String} {index : Nat} {y : MethodName} {bytes : ByteArray} {maxL : Nat} {ret : Option FieldType} {rm : Room} {W : Nat} {argsL rest : List Value} {Qc : Option Value → Heap → List Loc → Prop} {a : Addr} (hown : s.vm.findClass own = some m.cls) (eT : T.heap = h) (E : Exa Z h a y.cls) (C : Con l Z y bytes maxL ret rm (.ref a :: argsL).toArray h Qc) (w1 : (Jvm.Cond.methodLink own index y).before a0 Z = true) (wd : (Jvm.Cond.declares y).before a0 Z = true) (ws : (Jvm.Cond.selects y.cls y y).before a0 Z = true) (w2 : (Jvm.Cond.instanceMethod y).before a0 Z = true) (w3 : (Jvm.Cond.initialized y.cls).before a0 Z = true) (w4 : (Jvm.Cond.code y bytes maxL ret).before a0 Z = true) (hy : y.cls ≠ "java/lang/invoke/MethodHandle" ∧ y.cls ≠ "java/lang/invoke/VarHandle")
    (hf : rm.frames + 1 ≤ R.frames) (hl : W + (maxL + 11) + rm.locals ≤ R.locals) (hc : cells + rm.cells ≤ R.cells) (hs : slots + rm.slots ≤ R.slots) (hsz : Ls.size = c.maxLocals) (hlen : ∀ sig, parseMethodDescriptor y.desc = some sig → argsL.length = sig.parameters.length) (hW : (rest.map fun v => v.category).sum ≤ W) (hst : St = argsL.reverse ++ .ref a :: rest) (hd : decode c.code pc = .ok (.invokevirtual index, 3)) (hp : pc + 3 = pc')
    (kk : ∀ (T' : State) (L : List Loc) (v : Option Value), Stand p l e R s m args below meth c T' (locs ++ L) (cells + rm.cells) (slots + rm.slots) → Qc v T'.heap L → Go p e below s cm sm Q T' (mkF m pc' Ls (v.toList ++ rest))) : Go p e below s cm sm Q T (mkF m pc Ls St) := by
  subst hp hst
  obtain ⟨cq, kq, qa, qb, qc⟩ := isOf hZ eT E
  obtain ⟨v, _, ⟨T1, L1, k1, n1⟩, -, X1, ⟨Lc, hQ, l1, y1, z1⟩, st⟩ := X.virtualBack hx (y := y) (z := y) hown (mvT hZ w1) (mvT hZ wd) (notFace_of_selects (args := #[]) (mvT hZ ws)) (mvT hZ ws) (mvT hZ w2) hy (C.back (W := W) hZ w4 w3 hf hl) qa qc (g := mkF m pc Ls (argsL.reverse ++ .ref a :: rest)) rfl hsz (Steps.refl _) (argsL := argsL) (rest := rest) hlen rfl (by show 2 * 0 + _ ≤ _; rw [Nat.mul_zero, Nat.zero_add]; exact hW) hd (fun _ _ => ⟨rfl, eT, hc, hs⟩)
  dsimp only [Pt.U, Pt.locs, Pt.cells, Pt.slots] at X1 l1 y1 z1 st hQ
  subst l1 y1 z1
  exact Go.st (fun t q => st.trans q) (kk _ _ _ X1 hQ)
theorem w_initO (X : Stand p l e R s m args below meth c T locs cells slots) (hx : p.tables.exec = Jvm.exec) (hZ : Z.Warmed39 s.vm) {own : String} {index : Nat} {a : Addr} (hown : s.vm.findClass own = some m.cls) (eT : T.heap = h) (w1 : (Jvm.Cond.methodLink own index Lib.objectInit).before a0 Z = true) (w2 : (Jvm.Cond.instanceMethod Lib.objectInit).before a0 Z = true) (w3 : (Jvm.Cond.code Lib.objectInit ⟨#[0xb1]⟩ 1 none).before a0 Z = true) (hsz : Ls.size = c.maxLocals) (hd : decode c.code pc = .ok (.invokespecial index, 3)) (hf : 1 ≤ R.frames) {W : Nat} (hW : (St.map fun v => v.category).sum ≤ W) (hl : W + 12 ≤ R.locals) (hp : pc + 3 = pc')
    (kk : ∀ T' : State, Stand p l e R s m args below meth c T' locs cells slots → T'.heap = h → Go p e below s cm sm Q T' (mkF m pc' Ls St)) : Go p e below s cm sm Q T (mkF m pc Ls (.ref a :: St)) := by
  subst hp
  obtain ⟨T1, X1, e1, st⟩ := initO X hx hZ hown w1 w2 w3 eT (g := mkF m pc Ls (.ref a :: St)) rfl hsz rfl hd hf (W := W) (by show 2 * 0 + _ ≤ _; rw [Nat.mul_zero, Nat.zero_add]; exact hW) hl
  exact Go.st st (kk _ X1 e1)
theorem w_getF (X : Stand p l e R s m args below meth c T locs cells slots) (hx : p.tables.exec = Jvm.exec) (hZ : Z.Warmed39 s.vm) {own O n d : String} {index : Nat} {a : Addr} {v : Value} (hown : s.vm.findClass own = some m.cls) (eT : T.heap = h) (F : Fld Z h a O n d v) (w : (Jvm.Cond.fieldLink own index O n d).before a0 Z = true) (hd : decode c.code pc = .ok (.getfield index, 3)) (hp : pc + 3 = pc')
    (kk : ∀ T' : State, Stand p l e R s m args below meth c T' locs cells slots → T'.heap = h → Go p e below s cm sm Q T' (mkF m pc' Ls (v :: St))) : Go p e below s cm sm Q T (mkF m pc Ls (.ref a :: St)) := by
  subst hp
  obtain ⟨T1, X1, e1, st⟩ := getF X hx hZ hown (host := "") (Or.inl w) Via.refl eT F (g := mkF m pc Ls (.ref a :: St)) rfl rfl hd
  exact Go.st st (kk _ X1 e1)
theorem w_putF (X : Stand p l e R s m args below meth c T locs cells slots) (hx : p.tables.exec = Jvm.exec) (hZ : Z.Warmed39 s.vm) {own O n d C : String} {index kn : Nat} {ty : FieldType} {a : Addr} {v old : Value} (hown : s.vm.findClass own = some m.cls) (eT : T.heap = h) (F : Fld Z h a O n d old) (E : Exa Z h a C) (w : (Jvm.Cond.fieldLink own index O n d).before a0 Z = true) (L : (Jvm.Cond.lays C O n d).before a0 Z = true ∨ ((Jvm.Cond.laysFinal C O n d).before a0 Z = true ∧ own = O ∧ meth.name = "<init>")) (wi : (Jvm.Cond.instantiable C kn).before a0 Z = true) (hty : parseFieldDescriptor d = some ty) (hn : narrow ty v = v) (hf : fits ty v = true) (hd : decode c.code pc = .ok (.putfield index, 3)) (hp : pc + 3 = pc')
    (kk : ∀ (T' : State) (h' : Heap), Stand p l e R s m args below meth c T' (locs ++ [⟨a, RoadKit.slotOf Z O n d⟩]) cells slots → T'.heap = h' → Wr h h' a (RoadKit.slotOf Z O n d) v → Go p e below s cm sm Q T' (mkF m pc' Ls St)) : Go p e below s cm sm Q T (mkF m pc Ls (v :: .ref a :: St)) := by
  subst hp
  obtain ⟨T1, h1, X1, e1, W1, st⟩ := putF X hx hZ hown (host := "") (Or.inl w) Via.refl eT F E L wi hty hn hf (g := mkF m pc Ls (v :: .ref a :: St)) rfl rfl hd
  exact Go.st st (kk _ _ X1 e1 W1)
theorem w_newO (X : Stand p l e R s m args below meth c T locs cells slots) (hx : p.tables.exec = Jvm.exec) (hZ : Z.Warmed39 s.vm) {own C : String} {index kn : Nat} (hown : s.vm.findClass own = some m.cls) (eT : T.heap = h) (w : (Jvm.Cond.classLink own index C).before a0 Z = true) (wi : (Jvm.Cond.instantiable C kn).before a0 Z = true) (wz : (Jvm.Cond.initialized C).before a0 Z = true) (hd : decode c.code pc = .ok (.new index, 3)) (hc : cells + 1 ≤ R.cells) (hl : slots + kn ≤ R.slots) (hp : pc + 3 = pc')
    (kk : ∀ (T' : State) (h' : Heap) (b : Addr), Stand p l e R s m args below meth c T' locs (cells + 1) (slots + kn) → T'.heap = h' → Ext h h' → b = h.size → Exa Z h' b C → (∀ {O nm d : String} {ty : FieldType}, Laid Z a0 C O nm d → parseFieldDescriptor d = some ty → Fld Z h' b O nm d (defaultValue ty)) → Go p e below s cm sm Q T' (mkF m pc' Ls (.ref b :: St))) : Go p e below s cm sm Q T (mkF m pc Ls St) := by
  subst hp
  obtain ⟨T1, h1, X1, e1, E1, A1, D1, -, st⟩ := newO X hx hZ hown w wi wz eT (g := mkF m pc Ls St) rfl hd hc hl
  exact Go.st st (kk _ _ _ X1 e1 E1 rfl A1 D1)
/-- an array of ints, bytes, chars, shorts or booleans, by its list -/
def AI (Z : State) (h : Heap) (a : Addr) (ty : FieldType) (vs : List Int32) : Prop := ∃ c : Cell, Arr Z h a c ty ∧ c.slots.toList = vs.map Value.int ∧ vs.length < 2147483648
/-- an array of longs, by its list -/
def AJ (Z : State) (h : Heap) (a : Addr) (vs : List Int64) : Prop := ∃ c : Cell, Arr Z h a c .long ∧ c.slots.toList = vs.map Value.long ∧ vs.length < 2147483648
theorem AI.lt {a : Addr} {ty : FieldType} {vs : List Int32} (F : AI Z h a ty vs) : a < h.size := by obtain ⟨c, q, -⟩ := F; exact q.lt
theorem AI.ext {a : Addr} {ty : FieldType} {vs : List Int32} (F : AI Z h a ty vs) (E : Ext h h') : AI Z h' a ty vs := by obtain ⟨c, q, r⟩ := F; exact ⟨c, q.ext E, r⟩
theorem AI.other {a b : Addr} {ty : FieldType} {vs : List Int32} {sl : Nat} {v : Value} (F : AI Z h a ty vs) (W : Wr h h' b sl v) (q : a ≠ b) : AI Z h' a ty vs := by obtain ⟨c, A, r⟩ := F; exact ⟨c, A.other W q, r⟩
theorem AI.keep {a : Addr} {ty : FieldType} {vs : List Int32} {ws : List Addr} (F : AI Z h a ty vs) (K : Keep h h' ws) (q : a ∉ ws) : AI Z h' a ty vs := by obtain ⟨c, A, r⟩ := F; exact ⟨c, ⟨K.2.1 a c A.1 q, A.2⟩, r⟩
theorem AI.new {a : Addr} {k : ClassId} {z : Int32} {ty : FieldType} (A : Arr Z h a (newA k ty z) ty) (hd : defaultValue ty = .int 0) : AI Z h a ty (List.replicate z.toNatClampNeg 0) := by
  refine ⟨_, A, ?_, ?_⟩
  · simp [newA, hd]
  · have := z.toInt_lt; rw [List.length_replicate]; show z.toInt.toNat < _; omega
theorem AI.wr {a : Addr} {ty : FieldType} {vs : List Int32} {j : Nat} {x : Int32} (F : AI Z h a ty vs) (W : Wr h h' a j (Value.int x)) : AI Z h' a ty (vs.set j x) := by
  obtain ⟨c, A, q, r⟩ := F
  refine ⟨_, A.same W, ?_, by simpa using r⟩
  simp [Cell.setSlot, q, List.map_set]
theorem AI.len {a : Addr} {ty : FieldType} {vs : List Int32} (F : AI Z h a ty vs) : vs.length < 2147483648 := by obtain ⟨c, q, r, t⟩ := F; exact t
theorem AI.sz {vs : List Int32} {c : Cell} (q : c.slots.toList = vs.map Value.int) : c.slots.size = vs.length := by
  have := congrArg List.length q; simpa using this
theorem AI.at {vs : List Int32} {c : Cell} {j : Nat} {x : Int32} (q : c.slots.toList = vs.map Value.int) (hv : vs[j]? = some x) : c.slots[j]? = some (Value.int x) := by
  rw [← Array.getElem?_toList, q]; simp [hv]
theorem AI.inb {vs : List Int32} {c : Cell} {j : Int32} (q : c.slots.toList = vs.map Value.int) (hj : ¬ j < 0) (hl : j.toNatClampNeg < vs.length) : ¬ (j < 0 ∨ c.slots.size ≤ j.toNatClampNeg) := by
  have := AI.sz q
  rw [this]
  rintro (r | r)
  · exact hj r
  · omega
theorem AJ.lt {a : Addr} {vs : List Int64} (F : AJ Z h a vs) : a < h.size := by obtain ⟨c, q, -⟩ := F; exact q.lt
theorem AJ.ext {a : Addr} {vs : List Int64} (F : AJ Z h a vs) (E : Ext h h') : AJ Z h' a vs := by obtain ⟨c, q, r⟩ := F; exact ⟨c, q.ext E, r⟩
theorem AJ.other {a b : Addr} {vs : List Int64} {sl : Nat} {v : Value} (F : AJ Z h a vs) (W : Wr h h' b sl v) (q : a ≠ b) : AJ Z h' a vs := by obtain ⟨c, A, r⟩ := F; exact ⟨c, A.other W q, r⟩
theorem AJ.keep {a : Addr} {vs : List Int64} {ws : List Addr} (F : AJ Z h a vs) (K : Keep h h' ws) (q : a ∉ ws) : AJ Z h' a vs := by obtain ⟨c, A, r⟩ := F; exact ⟨c, ⟨K.2.1 a c A.1 q, A.2⟩, r⟩
theorem AJ.new {a : Addr} {k : ClassId} {z : Int32} (A : Arr Z h a (newA k .long z) .long) : AJ Z h a (List.replicate z.toNatClampNeg 0) := by
  refine ⟨_, A, ?_, ?_⟩
  · simp [newA, defaultValue]
  · have := z.toInt_lt; rw [List.length_replicate]; show z.toInt.toNat < _; omega
theorem AJ.wr {a : Addr} {vs : List Int64} {j : Nat} {x : Int64} (F : AJ Z h a vs) (W : Wr h h' a j (Value.long x)) : AJ Z h' a (vs.set j x) := by
  obtain ⟨c, A, q, r⟩ := F
  refine ⟨_, A.same W, ?_, by simpa using r⟩
  simp [Cell.setSlot, q, List.map_set]
theorem AJ.len {a : Addr} {vs : List Int64} (F : AJ Z h a vs) : vs.length < 2147483648 := by obtain ⟨c, q, r, t⟩ := F; exact t
theorem AJ.sz {vs : List Int64} {c : Cell} (q : c.slots.toList = vs.map Value.long) : c.slots.size = vs.length := by
  have := congrArg List.length q; simpa using this
theorem AJ.at {vs : List Int64} {c : Cell} {j : Nat} {x : Int64} (q : c.slots.toList = vs.map Value.long) (hv : vs[j]? = some x) : c.slots[j]? = some (Value.long x) := by
  rw [← Array.getElem?_toList, q]; simp [hv]
theorem AJ.inb {vs : List Int64} {c : Cell} {j : Int32} (q : c.slots.toList = vs.map Value.long) (hj : ¬ j < 0) (hl : j.toNatClampNeg < vs.length) : ¬ (j < 0 ∨ c.slots.size ≤ j.toNatClampNeg) := by
  have := AJ.sz q
  rw [this]
  rintro (r | r)
  · exact hj r
  · omega
theorem w_iaload (X : Stand p l e R s m args below meth c T locs cells slots) (hx : p.tables.exec = Jvm.exec) (hZ : Z.Warmed39 s.vm) {a : Addr} {vs : List Int32} {j : Int32} {v : Int32} (eT : T.heap = h) (F : AI Z h a .int vs) (hj : ¬ j < 0) (hv : vs[j.toNatClampNeg]? = some v) (hd : decode c.code pc = .ok (.iaload, 1)) (hp : pc + 1 = pc')
    (kk : Go p e below s cm sm Q T (mkF m pc' Ls (Value.int v :: St))) : Go p e below s cm sm Q T (mkF m pc Ls (.int j :: .ref a :: St)) := by
  subst hp
  obtain ⟨cl, A, q, r⟩ := F
  exact Go.st (fun t k => X.iaload hx (j := j) (v := Value.int v) (by rw [eT]; exact A.1) (State.isArrayOf_alike hZ.alike A.2.1) A.2.2 (AI.inb q hj (List.getElem?_eq_some_iff.mp hv).1) (AI.at q hv) (g := mkF m pc Ls (.int j :: .ref a :: St)) rfl rfl hd t k) kk
theorem w_baload (X : Stand p l e R s m args below meth c T locs cells slots) (hx : p.tables.exec = Jvm.exec) (hZ : Z.Warmed39 s.vm) {a : Addr} {vs : List Int32} {j : Int32} {v : Int32} (eT : T.heap = h) (F : AI Z h a .byte vs) (hj : ¬ j < 0) (hv : vs[j.toNatClampNeg]? = some v) (hd : decode c.code pc = .ok (.baload, 1)) (hp : pc + 1 = pc')
    (kk : Go p e below s cm sm Q T (mkF m pc' Ls (Value.int v :: St))) : Go p e below s cm sm Q T (mkF m pc Ls (.int j :: .ref a :: St)) := by
  subst hp
  obtain ⟨cl, A, q, r⟩ := F
  exact Go.st (fun t k => X.baloadBytes hx (j := j) (v := Value.int v) (by rw [eT]; exact A.1) (State.isArrayOf_alike hZ.alike A.2.1) A.2.2 (AI.inb q hj (List.getElem?_eq_some_iff.mp hv).1) (AI.at q hv) (g := mkF m pc Ls (.int j :: .ref a :: St)) rfl rfl hd t k) kk
theorem w_laload (X : Stand p l e R s m args below meth c T locs cells slots) (hx : p.tables.exec = Jvm.exec) (hZ : Z.Warmed39 s.vm) {a : Addr} {vs : List Int64} {j : Int32} {v : Int64} (eT : T.heap = h) (F : AJ Z h a vs) (hj : ¬ j < 0) (hv : vs[j.toNatClampNeg]? = some v) (hd : decode c.code pc = .ok (.laload, 1)) (hp : pc + 1 = pc')
    (kk : Go p e below s cm sm Q T (mkF m pc' Ls (Value.long v :: St))) : Go p e below s cm sm Q T (mkF m pc Ls (.int j :: .ref a :: St)) := by
  subst hp
  obtain ⟨cl, A, q, r⟩ := F
  exact Go.st (fun t k => X.laload hx (j := j) (v := Value.long v) (by rw [eT]; exact A.1) (State.isArrayOf_alike hZ.alike A.2.1) A.2.2 (AJ.inb q hj (List.getElem?_eq_some_iff.mp hv).1) (AJ.at q hv) (g := mkF m pc Ls (.int j :: .ref a :: St)) rfl rfl hd t k) kk
theorem w_iastore (X : Stand p l e R s m args below meth c T locs cells slots) (hx : p.tables.exec = Jvm.exec) (hZ : Z.Warmed39 s.vm) {a : Addr} {vs : List Int32} {j : Int32} {x : Int32} (eT : T.heap = h) (F : AI Z h a .int vs) (hj : ¬ j < 0) (hl : j.toNatClampNeg < vs.length) (hd : decode c.code pc = .ok (.iastore, 1)) (hp : pc + 1 = pc')
    (kk : ∀ (T' : State) (h' : Heap), Stand p l e R s m args below meth c T' (locs ++ [⟨a, j.toNatClampNeg⟩]) cells slots → T'.heap = h' → Wr h h' a j.toNatClampNeg (Value.int x) → AI Z h' a .int (vs.set j.toNatClampNeg x) → Go p e below s cm sm Q T' (mkF m pc' Ls St)) : Go p e below s cm sm Q T (mkF m pc Ls (Value.int x :: .int j :: .ref a :: St)) := by
  subst hp
  obtain ⟨cl, A, q, r⟩ := F
  obtain ⟨T1, h1, X1, e1, W1, st⟩ := RoadKit.stI X hx hZ eT A (j := j) (x := x) (AI.inb q hj hl) (g := mkF m pc Ls (Value.int x :: .int j :: .ref a :: St)) rfl rfl hd
  exact Go.st st (kk _ _ X1 e1 W1 (AI.wr ⟨cl, A, q, r⟩ W1))
theorem w_bastore (X : Stand p l e R s m args below meth c T locs cells slots) (hx : p.tables.exec = Jvm.exec) (hZ : Z.Warmed39 s.vm) {a : Addr} {vs : List Int32} {j : Int32} {x : Int32} (eT : T.heap = h) (F : AI Z h a .byte vs) (hj : ¬ j < 0) (hl : j.toNatClampNeg < vs.length) (hd : decode c.code pc = .ok (.bastore, 1)) (hp : pc + 1 = pc')
    (kk : ∀ (T' : State) (h' : Heap), Stand p l e R s m args below meth c T' (locs ++ [⟨a, j.toNatClampNeg⟩]) cells slots → T'.heap = h' → Wr h h' a j.toNatClampNeg (Value.int (nar .byte x)) → AI Z h' a .byte (vs.set j.toNatClampNeg (nar .byte x)) → Go p e below s cm sm Q T' (mkF m pc' Ls St)) : Go p e below s cm sm Q T (mkF m pc Ls (Value.int x :: .int j :: .ref a :: St)) := by
  subst hp
  obtain ⟨cl, A, q, r⟩ := F
  obtain ⟨T1, h1, X1, e1, W1, st⟩ := RoadKit.stB X hx hZ eT A (j := j) (x := x) (AI.inb q hj hl) (g := mkF m pc Ls (Value.int x :: .int j :: .ref a :: St)) rfl rfl hd
  exact Go.st st (kk _ _ X1 e1 W1 (AI.wr ⟨cl, A, q, r⟩ W1))
theorem w_lastore (X : Stand p l e R s m args below meth c T locs cells slots) (hx : p.tables.exec = Jvm.exec) (hZ : Z.Warmed39 s.vm) {a : Addr} {vs : List Int64} {j : Int32} {x : Int64} (eT : T.heap = h) (F : AJ Z h a vs) (hj : ¬ j < 0) (hl : j.toNatClampNeg < vs.length) (hd : decode c.code pc = .ok (.lastore, 1)) (hp : pc + 1 = pc')
    (kk : ∀ (T' : State) (h' : Heap), Stand p l e R s m args below meth c T' (locs ++ [⟨a, j.toNatClampNeg⟩]) cells slots → T'.heap = h' → Wr h h' a j.toNatClampNeg (Value.long x) → AJ Z h' a (vs.set j.toNatClampNeg x) → Go p e below s cm sm Q T' (mkF m pc' Ls St)) : Go p e below s cm sm Q T (mkF m pc Ls (Value.long x :: .int j :: .ref a :: St)) := by
  subst hp
  obtain ⟨cl, A, q, r⟩ := F
  obtain ⟨T1, h1, X1, e1, W1, st⟩ := RoadKit.stJ X hx hZ eT A (j := j) (x := x) (AJ.inb q hj hl) (g := mkF m pc Ls (Value.long x :: .int j :: .ref a :: St)) rfl rfl hd
  exact Go.st st (kk _ _ X1 e1 W1 (AJ.wr ⟨cl, A, q, r⟩ W1))
theorem w_alenI (X : Stand p l e R s m args below meth c T locs cells slots) (hx : p.tables.exec = Jvm.exec) (hZ : Z.Warmed39 s.vm) {a : Addr} {ty : FieldType} {vs : List Int32} {n : Int32} (eT : T.heap = h) (F : AI Z h a ty vs) (hn : vs.length.toInt32 = n) (hd : decode c.code pc = .ok (.arraylength, 1)) (hp : pc + 1 = pc')
    (kk : Go p e below s cm sm Q T (mkF m pc' Ls (.int n :: St))) : Go p e below s cm sm Q T (mkF m pc Ls (.ref a :: St)) := by
  subst hp hn
  obtain ⟨cl, A, q, r⟩ := F
  have hs := AI.sz q
  exact Go.st (fun t k => X.arraylength hx (by rw [eT]; exact A.1) (State.isArrayOf_alike hZ.alike A.2.1) (g := mkF m pc Ls (.ref a :: St)) rfl rfl hd t (by rw [hs]; exact k)) kk
theorem w_alenJ (X : Stand p l e R s m args below meth c T locs cells slots) (hx : p.tables.exec = Jvm.exec) (hZ : Z.Warmed39 s.vm) {a : Addr} {vs : List Int64} {n : Int32} (eT : T.heap = h) (F : AJ Z h a vs) (hn : vs.length.toInt32 = n) (hd : decode c.code pc = .ok (.arraylength, 1)) (hp : pc + 1 = pc')
    (kk : Go p e below s cm sm Q T (mkF m pc' Ls (.int n :: St))) : Go p e below s cm sm Q T (mkF m pc Ls (.ref a :: St)) := by
  subst hp hn
  obtain ⟨cl, A, q, r⟩ := F
  have hs := AJ.sz q
  exact Go.st (fun t k => X.arraylength hx (by rw [eT]; exact A.1) (State.isArrayOf_alike hZ.alike A.2.1) (g := mkF m pc Ls (.ref a :: St)) rfl rfl hd t (by rw [hs]; exact k)) kk
theorem w_newI (X : Stand p l e R s m args below meth c T locs cells slots) (hx : p.tables.exec = Jvm.exec) (hZ : Z.Warmed39 s.vm) {n : Int32} {cap : Nat} (eT : T.heap = h) (w : (Jvm.Cond.arrayClass .int).before a0 Z = true) (hn : ¬ n < 0) (hcap : n.toNatClampNeg ≤ cap) (hb : cap * 8 ≤ 536870912) (hc : cells + 1 ≤ R.cells) (hl : slots + cap ≤ R.slots) (hd : decode c.code pc = .ok (.newarray .int, 2)) (hp : pc + 2 = pc')
    (kk : ∀ (T' : State) (h' : Heap) (b : Addr), Stand p l e R s m args below meth c T' locs (cells + 1) (slots + cap) → T'.heap = h' → Ext h h' → b = h.size → AI Z h' b .int (List.replicate n.toNatClampNeg 0) → Go p e below s cm sm Q T' (mkF m pc' Ls (.ref b :: St))) : Go p e below s cm sm Q T (mkF m pc Ls (.int n :: St)) := by
  subst hp
  obtain ⟨T1, h1, k1, X1, e1, E1, A1, st⟩ := newP X hx hZ (aty := .int) w eT (g := mkF m pc Ls (.int n :: St)) rfl hd rfl hn (cap := cap) hcap hb hc hl
  exact Go.st st (kk _ _ _ X1 e1 E1 rfl (AI.new A1 rfl))
theorem w_newB (X : Stand p l e R s m args below meth c T locs cells slots) (hx : p.tables.exec = Jvm.exec) (hZ : Z.Warmed39 s.vm) {n : Int32} {cap : Nat} (eT : T.heap = h) (w : (Jvm.Cond.arrayClass .byte).before a0 Z = true) (hn : ¬ n < 0) (hcap : n.toNatClampNeg ≤ cap) (hb : cap * 8 ≤ 536870912) (hc : cells + 1 ≤ R.cells) (hl : slots + cap ≤ R.slots) (hd : decode c.code pc = .ok (.newarray .byte, 2)) (hp : pc + 2 = pc')
    (kk : ∀ (T' : State) (h' : Heap) (b : Addr), Stand p l e R s m args below meth c T' locs (cells + 1) (slots + cap) → T'.heap = h' → Ext h h' → b = h.size → AI Z h' b .byte (List.replicate n.toNatClampNeg 0) → Go p e below s cm sm Q T' (mkF m pc' Ls (.ref b :: St))) : Go p e below s cm sm Q T (mkF m pc Ls (.int n :: St)) := by
  subst hp
  obtain ⟨T1, h1, k1, X1, e1, E1, A1, st⟩ := newP X hx hZ (aty := .byte) w eT (g := mkF m pc Ls (.int n :: St)) rfl hd rfl hn (cap := cap) hcap hb hc hl
  exact Go.st st (kk _ _ _ X1 e1 E1 rfl (AI.new A1 rfl))
theorem w_newJ (X : Stand p l e R s m args below meth c T locs cells slots) (hx : p.tables.exec = Jvm.exec) (hZ : Z.Warmed39 s.vm) {n : Int32} {cap : Nat} (eT : T.heap = h) (w : (Jvm.Cond.arrayClass .long).before a0 Z = true) (hn : ¬ n < 0) (hcap : n.toNatClampNeg ≤ cap) (hb : cap * 8 ≤ 536870912) (hc : cells + 1 ≤ R.cells) (hl : slots + cap ≤ R.slots) (hd : decode c.code pc = .ok (.newarray .long, 2)) (hp : pc + 2 = pc')
    (kk : ∀ (T' : State) (h' : Heap) (b : Addr), Stand p l e R s m args below meth c T' locs (cells + 1) (slots + cap) → T'.heap = h' → Ext h h' → b = h.size → AJ Z h' b (List.replicate n.toNatClampNeg 0) → Go p e below s cm sm Q T' (mkF m pc' Ls (.ref b :: St))) : Go p e below s cm sm Q T (mkF m pc Ls (.int n :: St)) := by
  subst hp
  obtain ⟨T1, h1, k1, X1, e1, E1, A1, st⟩ := newP X hx hZ (aty := .long) w eT (g := mkF m pc Ls (.int n :: St)) rfl hd rfl hn (cap := cap) hcap hb hc hl
  exact Go.st st (kk _ _ _ X1 e1 E1 rfl (AJ.new A1))
theorem w_callP (X : Stand p l e R s m args below meth c T locs cells slots) (hx : p.tables.exec = Jvm.exec) (hZ : Z.Warmed39 s.vm) {own : String} {index : Nat} {y : MethodName} {bytes : ByteArray} {maxL : Nat} {ret : Option FieldType} {rm : Room} {W : Nat} {argsL rest : List Value} {Qc : Option Value → Heap → List Loc → Prop} {a : Addr} (hown : s.vm.findClass own = some m.cls) (eT : T.heap = h) (E : Exa Z h a y.cls) (C : Con l Z y bytes maxL ret rm (.ref a :: argsL).toArray h Qc) (w1 : (Jvm.Cond.methodLink own index y).before a0 Z = true) (w2 : (Jvm.Cond.instanceMethod y).before a0 Z = true) (ws : (Jvm.Cond.selects y.cls y y).before a0 Z = true) (wp : (Jvm.Cond.privateMethod y).before a0 Z = true) (w3 : (Jvm.Cond.initialized y.cls).before a0 Z = true) (w4 : (Jvm.Cond.code y bytes maxL ret).before a0 Z = true) (hy : y.cls ≠ "java/lang/invoke/MethodHandle" ∧ y.cls ≠ "java/lang/invoke/VarHandle")
    (hf : rm.frames + 1 ≤ R.frames) (hl : W + (maxL + 11) + rm.locals ≤ R.locals) (hc : cells + rm.cells ≤ R.cells) (hs : slots + rm.slots ≤ R.slots) (hsz : Ls.size = c.maxLocals) (hlen : ∀ sig, parseMethodDescriptor y.desc = some sig → argsL.length = sig.parameters.length) (hW : (rest.map fun v => v.category).sum ≤ W) (hst : St = argsL.reverse ++ .ref a :: rest) (hd : decode c.code pc = .ok (.invokevirtual index, 3)) (hp : pc + 3 = pc')
    (kk : ∀ (T' : State) (L : List Loc) (v : Option Value), Stand p l e R s m args below meth c T' (locs ++ L) (cells + rm.cells) (slots + rm.slots) → Qc v T'.heap L → Go p e below s cm sm Q T' (mkF m pc' Ls (v.toList ++ rest))) : Go p e below s cm sm Q T (mkF m pc Ls St) := by
  subst hp hst
  obtain ⟨cq, q1, q2⟩ := E.cell
  obtain ⟨v, _, ⟨T1, L1, k1, n1⟩, -, X1, ⟨Lc, hQ, l1, y1, z1⟩, st⟩ := X.privateBack hx (y := y) hown (mvT hZ w1) (mvT hZ w2) (mvT hZ ws) (Cond.privateMethod_at (mvP hZ wp (args := #[]))) (mvT hZ w4) hy (C.back (W := W) hZ w4 w3 hf hl) (g := mkF m pc Ls (argsL.reverse ++ .ref a :: rest)) rfl hsz (Steps.refl _) (a := a) (by rw [eT]; exact q1) q2 (argsL := argsL) (rest := rest) hlen rfl (by show 2 * 0 + _ ≤ _; rw [Nat.mul_zero, Nat.zero_add]; exact hW) hd (fun _ _ => ⟨rfl, eT, hc, hs⟩)
  dsimp only [Pt.U, Pt.locs, Pt.cells, Pt.slots] at X1 l1 y1 z1 st hQ
  subst l1 y1 z1
  exact Go.st (fun t q => st.trans q) (kk _ _ _ X1 hQ)
theorem w_ifnullNo (X : Stand p l e R s m args below meth c T locs cells slots) (hx : p.tables.exec = Jvm.exec) {o : Int} {b : Addr} (hd : decode c.code pc = .ok (.ifnull o, 3)) (hp : pc + 3 = pc') (kk : Go p e below s cm sm Q T (mkF m pc' Ls St)) : Go p e below s cm sm Q T (mkF m pc Ls (.ref b :: St)) := by
  subst hp
  exact Go.st (fun t q => XS.ifnullNo (g := mkF m pc Ls (.ref b :: St)) X.here hx rfl hd rfl q) kk
theorem own_len {n k : Nat} (h : n < 2147483648) (hk : k < 2147483648) (hc : ¬ n.toInt32 < k.toInt32) : k ≤ n := by
  rw [Int32.lt_iff_toInt_lt, len_toInt h, len_toInt hk] at hc
  omega
theorem own_len' {n k : Nat} (h : n < 2147483648) (hk : k < 2147483648) (hc : n.toInt32 < k.toInt32) : n < k := by
  rw [Int32.lt_iff_toInt_lt, len_toInt h, len_toInt hk] at hc
  omega
theorem own_getD {α : Type} {vs : List α} {j : Nat} {d : α} (h : j < vs.length) : vs[j]? = some (vs.getD j d) := by simp [h]
theorem own_nar0 : nar .boolean 0 = 0 := by decide
theorem own_nar1 : nar .boolean 1 = 1 := by decide
theorem w_up {c' s' : Nat} (X : Stand p l e R s m args below meth c T locs cells slots) (h1 : cells ≤ c') (h2 : slots ≤ s') : Stand p l e R s m args below meth c T locs c' s' :=
  ⟨X.admits, X.cas, X.clock, X.frames, X.room, X.hears, X.method, X.code, X.here, X.tail, X.warmed, X.limits, X.bytes, X.same.mono h1 h2⟩
end OwnKit
theorem pd_0 : parseMethodDescriptor "(I)I" = some ⟨[.int], some .int⟩ := by decide +kernel
theorem pd_1 : parseMethodDescriptor "(Ljava/util/Map;[BI[IIZ)V" = some ⟨[(.object "java/util/Map"), (.array .byte), .int, (.array .int), .int, .boolean], none⟩ := by decide +kernel
theorem d1_0 : decode prog_5_method_2_code 0 = .ok (.aload_n 0, 1) := by decide +kernel
theorem d1_1 : decode prog_5_method_2_code 1 = .ok (.invokespecial 7, 3) := by decide +kernel
theorem d1_4 : decode prog_5_method_2_code 4 = .ok (.aload_n 0, 1) := by decide +kernel
theorem d1_5 : decode prog_5_method_2_code 5 = .ok (.aload_n 1, 1) := by decide +kernel
theorem d1_6 : decode prog_5_method_2_code 6 = .ok (.putfield 12, 3) := by decide +kernel
theorem d1_9 : decode prog_5_method_2_code 9 = .ok (.aload_n 0, 1) := by decide +kernel
theorem d1_10 : decode prog_5_method_2_code 10 = .ok (.aload_n 2, 1) := by decide +kernel
theorem d1_11 : decode prog_5_method_2_code 11 = .ok (.putfield 16, 3) := by decide +kernel
theorem d1_14 : decode prog_5_method_2_code 14 = .ok (.aload_n 0, 1) := by decide +kernel
theorem d1_15 : decode prog_5_method_2_code 15 = .ok (.iload_n 3, 1) := by decide +kernel
theorem d1_16 : decode prog_5_method_2_code 16 = .ok (.putfield 20, 3) := by decide +kernel
theorem d1_19 : decode prog_5_method_2_code 19 = .ok (.aload_n 0, 1) := by decide +kernel
theorem d1_20 : decode prog_5_method_2_code 20 = .ok (.aload 4, 2) := by decide +kernel
theorem d1_22 : decode prog_5_method_2_code 22 = .ok (.putfield 24, 3) := by decide +kernel
theorem d1_25 : decode prog_5_method_2_code 25 = .ok (.aload_n 0, 1) := by decide +kernel
theorem d1_26 : decode prog_5_method_2_code 26 = .ok (.iload 5, 2) := by decide +kernel
theorem d1_28 : decode prog_5_method_2_code 28 = .ok (.putfield 28, 3) := by decide +kernel
theorem d1_31 : decode prog_5_method_2_code 31 = .ok (.aload_n 0, 1) := by decide +kernel
theorem d1_32 : decode prog_5_method_2_code 32 = .ok (.iload 6, 2) := by decide +kernel
theorem d1_34 : decode prog_5_method_2_code 34 = .ok (.putfield 31, 3) := by decide +kernel
theorem d1_37 : decode prog_5_method_2_code 37 = .ok (.return_, 1) := by decide +kernel
theorem ef_1 (m : MethodId) (ob : Addr) (x2 : Addr) (x3 : Int32) (x4 : Addr) (x5 : Int32) (x6 : Int32) : entryFrame m #[(.ref ob), .null, (.ref x2), (.int x3), (.ref x4), (.int x5), (.int x6)] 7 = mkF m 0 #[.val (.ref ob), .val .null, .val (.ref x2), .val (.int x3), .val (.ref x4), .val (.int x5), .val (.int x6)] [] := by first | (simp [entryFrame, mkF, argsToLocals, Value.category]; done) | rfl
set_option maxRecDepth 65536 in
set_option maxHeartbeats 40000000 in
theorem rm1 (l : Launch) (Z : State) (a0 : Array Value) (hw : ∀ d ∈ tables_1, d.before a0 Z = true) (ob : Addr) (x2 : Addr) (x3 : Int32) (x4 : Addr) (x5 : Int32) (x6 : Int32) (h0 : Heap) (n0 : Nat) (Z0 : n0 ≤ h0.size) (E_ob : Exa Z h0 ob "com/example/tallyshare/tallyshare/InputRow") (g_ob : n0 ≤ ob) (F_header : Fld Z h0 ob "com/example/tallyshare/tallyshare/InputRow" "header" "Ljava/util/Map;" .null) (F_text : Fld Z h0 ob "com/example/tallyshare/tallyshare/InputRow" "text" "[B" .null) (F_from : Fld Z h0 ob "com/example/tallyshare/tallyshare/InputRow" "from" "I" (.int (0 : Int32))) (F_ends : Fld Z h0 ob "com/example/tallyshare/tallyshare/InputRow" "ends" "[I" .null) (F_endsFrom : Fld Z h0 ob "com/example/tallyshare/tallyshare/InputRow" "endsFrom" "I" (.int (0 : Int32))) (F_atListPrice : Fld Z h0 ob "com/example/tallyshare/tallyshare/InputRow" "atListPrice" "Z" (.int (0 : Int32))) (hz : x6 = 0 ∨ x6 = 1) :
    Con l Z (⟨"com/example/tallyshare/tallyshare/InputRow", "<init>", "(Ljava/util/Map;[BI[IIZ)V"⟩ : MethodName) prog_5_method_2_code 7 none ({ frames := 1, cells := 0, slots := 0, locals := 16 } : Room) #[(.ref ob), .null, (.ref x2), (.int x3), (.ref x4), (.int x5), (.int x6)] h0 (fun v h L => v = none ∧ Fr n0 L ∧ Keep h0 h [ob] ∧ Fld Z h ob "com/example/tallyshare/tallyshare/InputRow" "header" "Ljava/util/Map;" .null ∧ Fld Z h ob "com/example/tallyshare/tallyshare/InputRow" "text" "[B" (.ref x2) ∧ Fld Z h ob "com/example/tallyshare/tallyshare/InputRow" "from" "I" (.int x3) ∧ Fld Z h ob "com/example/tallyshare/tallyshare/InputRow" "ends" "[I" (.ref x4) ∧ Fld Z h ob "com/example/tallyshare/tallyshare/InputRow" "endsFrom" "I" (.int x5) ∧ Fld Z h ob "com/example/tallyshare/tallyshare/InputRow" "atListPrice" "Z" (.int x6)) := by
  refine Con.of (plainFor_of_name (by first | (simp [plainName, overriddenIn]; done) | decide +kernel)) ?_
  intro p e s m below meth c T X hx hZ hby hml hown hnm hret hlk e0
  rw [ef_1]
  have N0 := Fr.nil n0
  have KP0 := Keep.refl h0 [ob]
  show Go p e below s 0 0 (fun v h L => v = none ∧ Fr n0 L ∧ Keep h0 h [ob] ∧ Fld Z h ob "com/example/tallyshare/tallyshare/InputRow" "header" "Ljava/util/Map;" .null ∧ Fld Z h ob "com/example/tallyshare/tallyshare/InputRow" "text" "[B" (.ref x2) ∧ Fld Z h ob "com/example/tallyshare/tallyshare/InputRow" "from" "I" (.int x3) ∧ Fld Z h ob "com/example/tallyshare/tallyshare/InputRow" "ends" "[I" (.ref x4) ∧ Fld Z h ob "com/example/tallyshare/tallyshare/InputRow" "endsFrom" "I" (.int x5) ∧ Fld Z h ob "com/example/tallyshare/tallyshare/InputRow" "atListPrice" "Z" (.int x6)) T (mkF m 0 #[.val (.ref ob), .val .null, .val (.ref x2), .val (.int x3), .val (.ref x4), .val (.int x5), .val (.int x6)] [])
  refine w_aloadN X hx (hb hby d1_0) (pc' := 1) rfl rfl rfl ?_
  refine w_initO X hx hZ hown e0 (hw _ (List.mem_of_getElem? (i := 9) rfl)) (hw _ (List.mem_of_getElem? (i := 10) rfl)) (hw _ (List.mem_of_getElem? (i := 11) rfl)) (by rw [hml]; rfl) (hb hby d1_1) (by decide) (W := 0) (by decide) (by decide) (pc' := 4) rfl (fun T1 X1 e1 => ?_)
  refine w_aloadN X1 hx (hb hby d1_4) (pc' := 5) rfl rfl rfl ?_
  refine w_aloadN X1 hx (hb hby d1_5) (pc' := 6) rfl rfl rfl ?_
  refine w_putF X1 hx hZ hown e1 F_header E_ob (hw _ (List.mem_of_getElem? (i := 12) rfl)) (Or.inr ⟨(hw _ (List.mem_of_getElem? (i := 13) rfl)), rfl, hnm⟩) (hw _ (List.mem_of_getElem? (i := 3) rfl)) (ty := (.object "java/util/Map")) (by decide) rfl rfl (hb hby d1_6) (pc' := 9) rfl (fun T2 h2 X2 e2 W2 => ?_)
  have F2 := F_header.same W2
  have KP2 := KP0.wr W2 (Or.inl (by simp))
  have N2 := Fr.snoc X2 N0 g_ob
  have zn2 : n0 ≤ h2.size := by rw [W2.size]; exact Z0
  refine w_aloadN X2 hx (hb hby d1_9) (pc' := 10) rfl rfl rfl ?_
  refine w_aloadN X2 hx (hb hby d1_10) (pc' := 11) rfl rfl rfl ?_
  have f3 := F_text.other W2 (Or.inr (slot_ne (Or.inr (hw _ (List.mem_of_getElem? (i := 15) rfl))) (Or.inr (hw _ (List.mem_of_getElem? (i := 13) rfl))) (by decide) (t := (.array .byte)) (t' := (.object "java/util/Map")) (by decide) (by decide)))
  have f4 := E_ob.wr W2
  refine w_putF X2 hx hZ hown e2 f3 f4 (hw _ (List.mem_of_getElem? (i := 14) rfl)) (Or.inr ⟨(hw _ (List.mem_of_getElem? (i := 15) rfl)), rfl, hnm⟩) (hw _ (List.mem_of_getElem? (i := 3) rfl)) (ty := (.array .byte)) (by decide) rfl rfl (hb hby d1_11) (pc' := 14) rfl (fun T5 h5 X5 e5 W5 => ?_)
  have F5 := f3.same W5
  have KP5 := KP2.wr W5 (Or.inl (by simp))
  have N5 := Fr.snoc X5 N2 g_ob
  have zn5 : n0 ≤ h5.size := by rw [W5.size]; exact zn2
  refine w_aloadN X5 hx (hb hby d1_14) (pc' := 15) rfl rfl rfl ?_
  refine w_iloadN X5 hx (hb hby d1_15) (pc' := 16) rfl rfl ?_
  have f6 := F_from.other W2 (Or.inr (slot_ne (Or.inr (hw _ (List.mem_of_getElem? (i := 17) rfl))) (Or.inr (hw _ (List.mem_of_getElem? (i := 13) rfl))) (by decide) (t := .int) (t' := (.object "java/util/Map")) (by decide) (by decide)))
  have f7 := f6.other W5 (Or.inr (slot_ne (Or.inr (hw _ (List.mem_of_getElem? (i := 17) rfl))) (Or.inr (hw _ (List.mem_of_getElem? (i := 15) rfl))) (by decide) (t := .int) (t' := (.array .byte)) (by decide) (by decide)))
  have f8 := f4.wr W5
  refine w_putF X5 hx hZ hown e5 f7 f8 (hw _ (List.mem_of_getElem? (i := 16) rfl)) (Or.inr ⟨(hw _ (List.mem_of_getElem? (i := 17) rfl)), rfl, hnm⟩) (hw _ (List.mem_of_getElem? (i := 3) rfl)) (ty := .int) (by decide) rfl rfl (hb hby d1_16) (pc' := 19) rfl (fun T9 h9 X9 e9 W9 => ?_)
  have F9 := f7.same W9
  have KP9 := KP5.wr W9 (Or.inl (by simp))
  have N9 := Fr.snoc X9 N5 g_ob
  have zn9 : n0 ≤ h9.size := by rw [W9.size]; exact zn5
  refine w_aloadN X9 hx (hb hby d1_19) (pc' := 20) rfl rfl rfl ?_
  refine w_aload X9 hx (hb hby d1_20) (pc' := 22) rfl rfl rfl ?_
  have f10 := F_ends.other W2 (Or.inr (slot_ne (Or.inr (hw _ (List.mem_of_getElem? (i := 19) rfl))) (Or.inr (hw _ (List.mem_of_getElem? (i := 13) rfl))) (by decide) (t := (.array .int)) (t' := (.object "java/util/Map")) (by decide) (by decide)))
  have f11 := f10.other W5 (Or.inr (slot_ne (Or.inr (hw _ (List.mem_of_getElem? (i := 19) rfl))) (Or.inr (hw _ (List.mem_of_getElem? (i := 15) rfl))) (by decide) (t := (.array .int)) (t' := (.array .byte)) (by decide) (by decide)))
  have f12 := f11.other W9 (Or.inr (slot_ne (Or.inr (hw _ (List.mem_of_getElem? (i := 19) rfl))) (Or.inr (hw _ (List.mem_of_getElem? (i := 17) rfl))) (by decide) (t := (.array .int)) (t' := .int) (by decide) (by decide)))
  have f13 := f8.wr W9
  refine w_putF X9 hx hZ hown e9 f12 f13 (hw _ (List.mem_of_getElem? (i := 18) rfl)) (Or.inr ⟨(hw _ (List.mem_of_getElem? (i := 19) rfl)), rfl, hnm⟩) (hw _ (List.mem_of_getElem? (i := 3) rfl)) (ty := (.array .int)) (by decide) rfl rfl (hb hby d1_22) (pc' := 25) rfl (fun T14 h14 X14 e14 W14 => ?_)
  have F14 := f12.same W14
  have KP14 := KP9.wr W14 (Or.inl (by simp))
  have N14 := Fr.snoc X14 N9 g_ob
  have zn14 : n0 ≤ h14.size := by rw [W14.size]; exact zn9
  refine w_aloadN X14 hx (hb hby d1_25) (pc' := 26) rfl rfl rfl ?_
  refine w_iload X14 hx (hb hby d1_26) (pc' := 28) rfl rfl ?_
  have f15 := F_endsFrom.other W2 (Or.inr (slot_ne (Or.inr (hw _ (List.mem_of_getElem? (i := 21) rfl))) (Or.inr (hw _ (List.mem_of_getElem? (i := 13) rfl))) (by decide) (t := .int) (t' := (.object "java/util/Map")) (by decide) (by decide)))
  have f16 := f15.other W5 (Or.inr (slot_ne (Or.inr (hw _ (List.mem_of_getElem? (i := 21) rfl))) (Or.inr (hw _ (List.mem_of_getElem? (i := 15) rfl))) (by decide) (t := .int) (t' := (.array .byte)) (by decide) (by decide)))
  have f17 := f16.other W9 (Or.inr (slot_ne (Or.inr (hw _ (List.mem_of_getElem? (i := 21) rfl))) (Or.inr (hw _ (List.mem_of_getElem? (i := 17) rfl))) (by decide) (t := .int) (t' := .int) (by decide) (by decide)))
  have f18 := f17.other W14 (Or.inr (slot_ne (Or.inr (hw _ (List.mem_of_getElem? (i := 21) rfl))) (Or.inr (hw _ (List.mem_of_getElem? (i := 19) rfl))) (by decide) (t := .int) (t' := (.array .int)) (by decide) (by decide)))
  have f19 := f13.wr W14
  refine w_putF X14 hx hZ hown e14 f18 f19 (hw _ (List.mem_of_getElem? (i := 20) rfl)) (Or.inr ⟨(hw _ (List.mem_of_getElem? (i := 21) rfl)), rfl, hnm⟩) (hw _ (List.mem_of_getElem? (i := 3) rfl)) (ty := .int) (by decide) rfl rfl (hb hby d1_28) (pc' := 31) rfl (fun T20 h20 X20 e20 W20 => ?_)
  have F20 := f18.same W20
  have KP20 := KP14.wr W20 (Or.inl (by simp))
  have N20 := Fr.snoc X20 N14 g_ob
  have zn20 : n0 ≤ h20.size := by rw [W20.size]; exact zn14
  refine w_aloadN X20 hx (hb hby d1_31) (pc' := 32) rfl rfl rfl ?_
  refine w_iload X20 hx (hb hby d1_32) (pc' := 34) rfl rfl ?_
  have f21 := F_atListPrice.other W2 (Or.inr (slot_ne (Or.inr (hw _ (List.mem_of_getElem? (i := 23) rfl))) (Or.inr (hw _ (List.mem_of_getElem? (i := 13) rfl))) (by decide) (t := .boolean) (t' := (.object "java/util/Map")) (by decide) (by decide)))
  have f22 := f21.other W5 (Or.inr (slot_ne (Or.inr (hw _ (List.mem_of_getElem? (i := 23) rfl))) (Or.inr (hw _ (List.mem_of_getElem? (i := 15) rfl))) (by decide) (t := .boolean) (t' := (.array .byte)) (by decide) (by decide)))
  have f23 := f22.other W9 (Or.inr (slot_ne (Or.inr (hw _ (List.mem_of_getElem? (i := 23) rfl))) (Or.inr (hw _ (List.mem_of_getElem? (i := 17) rfl))) (by decide) (t := .boolean) (t' := .int) (by decide) (by decide)))
  have f24 := f23.other W14 (Or.inr (slot_ne (Or.inr (hw _ (List.mem_of_getElem? (i := 23) rfl))) (Or.inr (hw _ (List.mem_of_getElem? (i := 19) rfl))) (by decide) (t := .boolean) (t' := (.array .int)) (by decide) (by decide)))
  have f25 := f24.other W20 (Or.inr (slot_ne (Or.inr (hw _ (List.mem_of_getElem? (i := 23) rfl))) (Or.inr (hw _ (List.mem_of_getElem? (i := 21) rfl))) (by decide) (t := .boolean) (t' := .int) (by decide) (by decide)))
  have f26 := f19.wr W20
  refine w_putF X20 hx hZ hown e20 f25 f26 (hw _ (List.mem_of_getElem? (i := 22) rfl)) (Or.inr ⟨(hw _ (List.mem_of_getElem? (i := 23) rfl)), rfl, hnm⟩) (hw _ (List.mem_of_getElem? (i := 3) rfl)) (ty := .boolean) (by decide) (by rcases hz with rfl | rfl <;> rfl) (by rcases hz with rfl | rfl <;> rfl) (hb hby d1_34) (pc' := 37) rfl (fun T27 h27 X27 e27 W27 => ?_)
  have F27 := f25.same W27
  have KP27 := KP20.wr W27 (Or.inl (by simp))
  have N27 := Fr.snoc X27 N20 g_ob
  have zn27 : n0 ≤ h27.size := by rw [W27.size]; exact zn20
  have f28 := F2.other W5 (Or.inr (slot_ne (Or.inr (hw _ (List.mem_of_getElem? (i := 13) rfl))) (Or.inr (hw _ (List.mem_of_getElem? (i := 15) rfl))) (by decide) (t := (.object "java/util/Map")) (t' := (.array .byte)) (by decide) (by decide)))
  have f29 := f28.other W9 (Or.inr (slot_ne (Or.inr (hw _ (List.mem_of_getElem? (i := 13) rfl))) (Or.inr (hw _ (List.mem_of_getElem? (i := 17) rfl))) (by decide) (t := (.object "java/util/Map")) (t' := .int) (by decide) (by decide)))
  have f30 := f29.other W14 (Or.inr (slot_ne (Or.inr (hw _ (List.mem_of_getElem? (i := 13) rfl))) (Or.inr (hw _ (List.mem_of_getElem? (i := 19) rfl))) (by decide) (t := (.object "java/util/Map")) (t' := (.array .int)) (by decide) (by decide)))
  have f31 := f30.other W20 (Or.inr (slot_ne (Or.inr (hw _ (List.mem_of_getElem? (i := 13) rfl))) (Or.inr (hw _ (List.mem_of_getElem? (i := 21) rfl))) (by decide) (t := (.object "java/util/Map")) (t' := .int) (by decide) (by decide)))
  have f32 := f31.other W27 (Or.inr (slot_ne (Or.inr (hw _ (List.mem_of_getElem? (i := 13) rfl))) (Or.inr (hw _ (List.mem_of_getElem? (i := 23) rfl))) (by decide) (t := (.object "java/util/Map")) (t' := .boolean) (by decide) (by decide)))
  have f33 := F5.other W9 (Or.inr (slot_ne (Or.inr (hw _ (List.mem_of_getElem? (i := 15) rfl))) (Or.inr (hw _ (List.mem_of_getElem? (i := 17) rfl))) (by decide) (t := (.array .byte)) (t' := .int) (by decide) (by decide)))
  have f34 := f33.other W14 (Or.inr (slot_ne (Or.inr (hw _ (List.mem_of_getElem? (i := 15) rfl))) (Or.inr (hw _ (List.mem_of_getElem? (i := 19) rfl))) (by decide) (t := (.array .byte)) (t' := (.array .int)) (by decide) (by decide)))
  have f35 := f34.other W20 (Or.inr (slot_ne (Or.inr (hw _ (List.mem_of_getElem? (i := 15) rfl))) (Or.inr (hw _ (List.mem_of_getElem? (i := 21) rfl))) (by decide) (t := (.array .byte)) (t' := .int) (by decide) (by decide)))
  have f36 := f35.other W27 (Or.inr (slot_ne (Or.inr (hw _ (List.mem_of_getElem? (i := 15) rfl))) (Or.inr (hw _ (List.mem_of_getElem? (i := 23) rfl))) (by decide) (t := (.array .byte)) (t' := .boolean) (by decide) (by decide)))
  have f37 := F9.other W14 (Or.inr (slot_ne (Or.inr (hw _ (List.mem_of_getElem? (i := 17) rfl))) (Or.inr (hw _ (List.mem_of_getElem? (i := 19) rfl))) (by decide) (t := .int) (t' := (.array .int)) (by decide) (by decide)))
  have f38 := f37.other W20 (Or.inr (slot_ne (Or.inr (hw _ (List.mem_of_getElem? (i := 17) rfl))) (Or.inr (hw _ (List.mem_of_getElem? (i := 21) rfl))) (by decide) (t := .int) (t' := .int) (by decide) (by decide)))
  have f39 := f38.other W27 (Or.inr (slot_ne (Or.inr (hw _ (List.mem_of_getElem? (i := 17) rfl))) (Or.inr (hw _ (List.mem_of_getElem? (i := 23) rfl))) (by decide) (t := .int) (t' := .boolean) (by decide) (by decide)))
  have f40 := F14.other W20 (Or.inr (slot_ne (Or.inr (hw _ (List.mem_of_getElem? (i := 19) rfl))) (Or.inr (hw _ (List.mem_of_getElem? (i := 21) rfl))) (by decide) (t := (.array .int)) (t' := .int) (by decide) (by decide)))
  have f41 := f40.other W27 (Or.inr (slot_ne (Or.inr (hw _ (List.mem_of_getElem? (i := 19) rfl))) (Or.inr (hw _ (List.mem_of_getElem? (i := 23) rfl))) (by decide) (t := (.array .int)) (t' := .boolean) (by decide) (by decide)))
  have f42 := F20.other W27 (Or.inr (slot_ne (Or.inr (hw _ (List.mem_of_getElem? (i := 21) rfl))) (Or.inr (hw _ (List.mem_of_getElem? (i := 23) rfl))) (by decide) (t := .int) (t' := .boolean) (by decide) (by decide)))
  exact w_retV X27 hx hret hlk (hb hby d1_37) (by decide) (by decide) (by rw [e27]; exact ⟨rfl, N27, KP27, f32, f36, f39, f41, f42, F27⟩)
theorem d4_0 : decode prog_5_method_10_code 0 = .ok (.aload_n 0, 1) := by decide +kernel
theorem d4_1 : decode prog_5_method_10_code 1 = .ok (.getfield 24, 3) := by decide +kernel
theorem d4_4 : decode prog_5_method_10_code 4 = .ok (.aload_n 0, 1) := by decide +kernel
theorem d4_5 : decode prog_5_method_10_code 5 = .ok (.getfield 28, 3) := by decide +kernel
theorem d4_8 : decode prog_5_method_10_code 8 = .ok (.iload_n 1, 1) := by decide +kernel
theorem d4_9 : decode prog_5_method_10_code 9 = .ok (.iadd, 1) := by decide +kernel
theorem d4_10 : decode prog_5_method_10_code 10 = .ok (.iaload, 1) := by decide +kernel
theorem d4_11 : decode prog_5_method_10_code 11 = .ok (.istore_n 2, 1) := by decide +kernel
theorem d4_12 : decode prog_5_method_10_code 12 = .ok (.iload_n 2, 1) := by decide +kernel
theorem d4_13 : decode prog_5_method_10_code 13 = .ok (.ifCond .ge 9, 3) := by decide +kernel
theorem d4_16 : decode prog_5_method_10_code 16 = .ok (.iload_n 2, 1) := by decide +kernel
theorem d4_17 : decode prog_5_method_10_code 17 = .ok (.iconst (-1), 1) := by decide +kernel
theorem d4_18 : decode prog_5_method_10_code 18 = .ok (.ixor, 1) := by decide +kernel
theorem d4_19 : decode prog_5_method_10_code 19 = .ok (.goto 4, 3) := by decide +kernel
theorem d4_22 : decode prog_5_method_10_code 22 = .ok (.iload_n 2, 1) := by decide +kernel
theorem d4_23 : decode prog_5_method_10_code 23 = .ok (.ireturn, 1) := by decide +kernel
def K4_0 (f_endsFrom : Int32) (vs : List Int32) (x1 : Int32) : Int32 :=
  (if (vs.getD ((f_endsFrom + x1)).toNatClampNeg 0) < (0 : Int32) then ((vs.getD ((f_endsFrom + x1)).toNatClampNeg 0) ^^^ (-1 : Int32))
  else (vs.getD ((f_endsFrom + x1)).toNatClampNeg 0))
set_option maxRecDepth 65536 in
set_option maxHeartbeats 4000000 in
theorem bk4_0 {p : Program} {l : Launch} {e : Env} {s : State} {m : MethodId} {args : Array Value} {below : List Frame} {meth : Method} {c : Code} {T : State} {locs : List Loc} {Z : State} {a0 : Array Value} {h0 : Heap} {n0 : Nat} {ob : Addr} {f_endsFrom : Int32} {vs : List Int32} (X : Stand p l e ({ frames := 0, cells := 0, slots := 0, locals := 0 } : Room) s m args below meth c T locs 0 0) (hx : p.tables.exec = Jvm.exec) (hZ : Z.Warmed39 s.vm) (hw : ∀ d ∈ tables_1, d.before a0 Z = true) (hby : c.code = prog_5_method_10_code) (hml : c.maxLocals = 3) (hown : s.vm.findClass "com/example/tallyshare/tallyshare/InputRow" = some m.cls) (hret : meth.sig.returnType = (some .int)) (hlk : meth.locks = false) (e0 : T.heap = h0) (N0 : Fr n0 locs) {f_ends : Addr} (F_ends : Fld Z h0 ob "com/example/tallyshare/tallyshare/InputRow" "ends" "[I" (.ref f_ends)) (F_endsFrom : Fld Z h0 ob "com/example/tallyshare/tallyshare/InputRow" "endsFrom" "I" (.int f_endsFrom)) (V_ends : AI Z h0 f_ends .int vs) (x1 : Int32) (hb0 : ¬ (f_endsFrom + x1) < 0) (hb1 : (f_endsFrom + x1).toNatClampNeg < vs.length) :
    Go p e below s 0 0 (QP (some (.int (K4_0 f_endsFrom vs x1))) h0 n0) T (mkF m 0 #[.val (.ref ob), .val (.int x1), .unset] []) := by
  rw [K4_0]
  refine w_aloadN X hx (hb hby d4_0) (pc' := 1) rfl rfl rfl ?_
  refine w_getF X hx hZ hown e0 F_ends (hw _ (List.mem_of_getElem? (i := 18) rfl)) (hb hby d4_1) (pc' := 4) rfl (fun T43 X43 e43 => ?_)
  refine w_aloadN X43 hx (hb hby d4_4) (pc' := 5) rfl rfl rfl ?_
  refine w_getF X43 hx hZ hown e43 F_endsFrom (hw _ (List.mem_of_getElem? (i := 20) rfl)) (hb hby d4_5) (pc' := 8) rfl (fun T44 X44 e44 => ?_)
  refine w_iloadN X44 hx (hb hby d4_8) (pc' := 9) rfl rfl ?_
  refine w_iadd X44 hx (hb hby d4_9) (pc' := 10) rfl ?_
  refine w_iaload X44 hx hZ e44 V_ends (v := (vs.getD ((f_endsFrom + x1)).toNatClampNeg 0)) hb0 (own_getD hb1) (hb hby d4_10) (pc' := 11) rfl ?_
  refine w_istoreN (Ls' := #[.val (.ref ob), .val (.int x1), .val (.int (vs.getD ((f_endsFrom + x1)).toNatClampNeg 0))]) X44 hx (hb hby d4_11) (pc' := 12) rfl rfl ?_
  refine w_iloadN X44 hx (hb hby d4_12) (pc' := 13) rfl rfl ?_
  refine w_if_ge X44 hx (hb hby d4_13) (pf := 16) (pt := 22) rfl (by decide) (by decide) (fun hc13 => ?_) (fun hc13 => ?_)
  · rw [if_neg hc13]
    refine w_iloadN X44 hx (hb hby d4_22) (pc' := 23) rfl rfl ?_
    exact w_retI X44 hx hret hlk (hb hby d4_23) (by decide) (by decide) ⟨rfl, N0, e44⟩
  · rw [if_pos hc13]
    refine w_iloadN X44 hx (hb hby d4_16) (pc' := 17) rfl rfl ?_
    refine w_iconst (v := -1) X44 hx (hb hby d4_17) (pc' := 18) rfl rfl ?_
    refine w_ixor X44 hx (hb hby d4_18) (pc' := 19) rfl ?_
    refine w_goto X44 hx (hb hby d4_19) (pc' := 23) (by decide) (by decide) ?_
    exact w_retI X44 hx hret hlk (hb hby d4_23) (by decide) (by decide) ⟨rfl, N0, e44⟩
theorem ef_4 (m : MethodId) (ob : Addr) (x1 : Int32) : entryFrame m #[(.ref ob), (.int x1)] 3 = mkF m 0 #[.val (.ref ob), .val (.int x1), .unset] [] := by first | (simp [entryFrame, mkF, argsToLocals, Value.category]; done) | rfl
theorem rm4 (l : Launch) (Z : State) (a0 : Array Value) (hw : ∀ d ∈ tables_1, d.before a0 Z = true) (ob : Addr) (x1 : Int32) (h0 : Heap) (n0 : Nat) (f_endsFrom : Int32) (vs : List Int32) {f_ends : Addr} (F_ends : Fld Z h0 ob "com/example/tallyshare/tallyshare/InputRow" "ends" "[I" (.ref f_ends)) (F_endsFrom : Fld Z h0 ob "com/example/tallyshare/tallyshare/InputRow" "endsFrom" "I" (.int f_endsFrom)) (V_ends : AI Z h0 f_ends .int vs) (hb0 : ¬ (f_endsFrom + x1) < 0) (hb1 : (f_endsFrom + x1).toNatClampNeg < vs.length) :
    Con l Z (⟨"com/example/tallyshare/tallyshare/InputRow", "end", "(I)I"⟩ : MethodName) prog_5_method_10_code 3 (some .int) ({ frames := 0, cells := 0, slots := 0, locals := 0 } : Room) #[(.ref ob), (.int x1)] h0 (QP (some (.int (K4_0 f_endsFrom vs x1))) h0 n0) := by
  refine Con.of (plainFor_of_name (by first | (simp [plainName, overriddenIn]; done) | decide +kernel)) ?_
  intro p e s m below meth c T X hx hZ hby hml hown hnm hret hlk e0
  rw [ef_4]
  exact bk4_0 X hx hZ hw hby hml hown hret hlk e0 (Fr.nil n0) F_ends F_endsFrom V_ends x1 hb0 hb1
theorem d3_0 : decode prog_5_method_9_code 0 = .ok (.iload_n 1, 1) := by decide +kernel
theorem d3_1 : decode prog_5_method_9_code 1 = .ok (.ifCond .ne 10, 3) := by decide +kernel
theorem d3_4 : decode prog_5_method_9_code 4 = .ok (.aload_n 0, 1) := by decide +kernel
theorem d3_5 : decode prog_5_method_9_code 5 = .ok (.getfield 20, 3) := by decide +kernel
theorem d3_8 : decode prog_5_method_9_code 8 = .ok (.goto 12, 3) := by decide +kernel
theorem d3_11 : decode prog_5_method_9_code 11 = .ok (.aload_n 0, 1) := by decide +kernel
theorem d3_12 : decode prog_5_method_9_code 12 = .ok (.iload_n 1, 1) := by decide +kernel
theorem d3_13 : decode prog_5_method_9_code 13 = .ok (.iconst 1, 1) := by decide +kernel
theorem d3_14 : decode prog_5_method_9_code 14 = .ok (.isub, 1) := by decide +kernel
theorem d3_15 : decode prog_5_method_9_code 15 = .ok (.invokevirtual 59, 3) := by decide +kernel
theorem d3_18 : decode prog_5_method_9_code 18 = .ok (.iconst 1, 1) := by decide +kernel
theorem d3_19 : decode prog_5_method_9_code 19 = .ok (.iadd, 1) := by decide +kernel
theorem d3_20 : decode prog_5_method_9_code 20 = .ok (.ireturn, 1) := by decide +kernel
def K3_0 (f_from : Int32) (f_endsFrom : Int32) (vs : List Int32) (x1 : Int32) : Int32 :=
  (if x1 = (0 : Int32) then f_from
  else ((K4_0 f_endsFrom vs (x1 - (1 : Int32))) + (1 : Int32)))
set_option maxRecDepth 65536 in
set_option maxHeartbeats 4000000 in
theorem bk3_0 {p : Program} {l : Launch} {e : Env} {s : State} {m : MethodId} {args : Array Value} {below : List Frame} {meth : Method} {c : Code} {T : State} {locs : List Loc} {Z : State} {a0 : Array Value} {h0 : Heap} {n0 : Nat} {ob : Addr} {f_from : Int32} {f_endsFrom : Int32} {vs : List Int32} (X : Stand p l e ({ frames := 1, cells := 0, slots := 0, locals := 20 } : Room) s m args below meth c T locs 0 0) (hx : p.tables.exec = Jvm.exec) (hZ : Z.Warmed39 s.vm) (hw : ∀ d ∈ tables_1, d.before a0 Z = true) (hby : c.code = prog_5_method_9_code) (hml : c.maxLocals = 2) (hown : s.vm.findClass "com/example/tallyshare/tallyshare/InputRow" = some m.cls) (hret : meth.sig.returnType = (some .int)) (hlk : meth.locks = false) (e0 : T.heap = h0) (N0 : Fr n0 locs) {f_ends : Addr} (F_from : Fld Z h0 ob "com/example/tallyshare/tallyshare/InputRow" "from" "I" (.int f_from)) (F_ends : Fld Z h0 ob "com/example/tallyshare/tallyshare/InputRow" "ends" "[I" (.ref f_ends)) (F_endsFrom : Fld Z h0 ob "com/example/tallyshare/tallyshare/InputRow" "endsFrom" "I" (.int f_endsFrom)) (V_ends : AI Z h0 f_ends .int vs) (E_ob : Exa Z h0 ob "com/example/tallyshare/tallyshare/InputRow") (x1 : Int32) (hbx : ¬ (x1 = 0) → ¬ (f_endsFrom + (x1 - 1)) < 0 ∧ (f_endsFrom + (x1 - 1)).toNatClampNeg < vs.length) :
    Go p e below s 0 0 (QP (some (.int (K3_0 f_from f_endsFrom vs x1))) h0 n0) T (mkF m 0 #[.val (.ref ob), .val (.int x1)] []) := by
  rw [K3_0]
  refine w_iloadN X hx (hb hby d3_0) (pc' := 1) rfl rfl ?_
  refine w_if_ne X hx (hb hby d3_1) (pf := 4) (pt := 11) rfl (by decide) (by decide) (fun hc1 => ?_) (fun hc1 => ?_)
  · rw [if_neg hc1]
    refine w_aloadN X hx (hb hby d3_11) (pc' := 12) rfl rfl rfl ?_
    refine w_iloadN X hx (hb hby d3_12) (pc' := 13) rfl rfl ?_
    refine w_iconst (v := 1) X hx (hb hby d3_13) (pc' := 14) rfl rfl ?_
    refine w_isub X hx (hb hby d3_14) (pc' := 15) rfl ?_
    refine w_callV (argsL := [(.int (x1 - (1 : Int32)))]) (rest := []) (a := ob) X hx hZ hown e0 E_ob (rm4 l Z a0 hw ob (x1 - (1 : Int32)) h0 n0 f_endsFrom vs F_ends F_endsFrom V_ends (hbx hc1).1 (hbx hc1).2) (hw _ (List.mem_of_getElem? (i := 29) rfl)) (hw _ (List.mem_of_getElem? (i := 30) rfl)) (hw _ (List.mem_of_getElem? (i := 32) rfl)) (hw _ (List.mem_of_getElem? (i := 31) rfl)) (hw _ (List.mem_of_getElem? (i := 4) rfl)) (hw _ (List.mem_of_getElem? (i := 33) rfl)) (by decide) (by decide) (W := 0) (by decide) (by decide) (by decide) (by rw [hml]; rfl) (lenOf pd_0 rfl) (Nat.le_refl _) rfl (hb hby d3_15) (pc' := 18) rfl (fun T45 L45 v45 X45 hQ45 => ?_)
    obtain ⟨rfl, N45q, e45⟩ := hQ45
    have N45 := Fr.app N0 N45q
    have X45 : Stand p l e ({ frames := 1, cells := 0, slots := 0, locals := 20 } : Room) s m _ below meth c T45 _ 0 0 := X45
    show Go p e below s 0 0 _ T45 (mkF m 18 #[.val (.ref ob), .val (.int x1)] [(.int (K4_0 f_endsFrom vs (x1 - (1 : Int32))))])
    refine w_iconst (v := 1) X45 hx (hb hby d3_18) (pc' := 19) rfl rfl ?_
    refine w_iadd X45 hx (hb hby d3_19) (pc' := 20) rfl ?_
    exact w_retI X45 hx hret hlk (hb hby d3_20) (by decide) (by decide) ⟨rfl, N45, e45⟩
  · rw [if_pos hc1]
    refine w_aloadN X hx (hb hby d3_4) (pc' := 5) rfl rfl rfl ?_
    refine w_getF X hx hZ hown e0 F_from (hw _ (List.mem_of_getElem? (i := 16) rfl)) (hb hby d3_5) (pc' := 8) rfl (fun T46 X46 e46 => ?_)
    refine w_goto X46 hx (hb hby d3_8) (pc' := 20) (by decide) (by decide) ?_
    exact w_retI X46 hx hret hlk (hb hby d3_20) (by decide) (by decide) ⟨rfl, N0, e46⟩
theorem ef_3 (m : MethodId) (ob : Addr) (x1 : Int32) : entryFrame m #[(.ref ob), (.int x1)] 2 = mkF m 0 #[.val (.ref ob), .val (.int x1)] [] := by first | (simp [entryFrame, mkF, argsToLocals, Value.category]; done) | rfl
theorem rm3 (l : Launch) (Z : State) (a0 : Array Value) (hw : ∀ d ∈ tables_1, d.before a0 Z = true) (ob : Addr) (x1 : Int32) (h0 : Heap) (n0 : Nat) (f_from : Int32) (f_endsFrom : Int32) (vs : List Int32) {f_ends : Addr} (F_from : Fld Z h0 ob "com/example/tallyshare/tallyshare/InputRow" "from" "I" (.int f_from)) (F_ends : Fld Z h0 ob "com/example/tallyshare/tallyshare/InputRow" "ends" "[I" (.ref f_ends)) (F_endsFrom : Fld Z h0 ob "com/example/tallyshare/tallyshare/InputRow" "endsFrom" "I" (.int f_endsFrom)) (V_ends : AI Z h0 f_ends .int vs) (E_ob : Exa Z h0 ob "com/example/tallyshare/tallyshare/InputRow") (hbx : ¬ (x1 = 0) → ¬ (f_endsFrom + (x1 - 1)) < 0 ∧ (f_endsFrom + (x1 - 1)).toNatClampNeg < vs.length) :
    Con l Z (⟨"com/example/tallyshare/tallyshare/InputRow", "start", "(I)I"⟩ : MethodName) prog_5_method_9_code 2 (some .int) ({ frames := 1, cells := 0, slots := 0, locals := 20 } : Room) #[(.ref ob), (.int x1)] h0 (QP (some (.int (K3_0 f_from f_endsFrom vs x1))) h0 n0) := by
  refine Con.of (plainFor_of_name (by first | (simp [plainName, overriddenIn]; done) | decide +kernel)) ?_
  intro p e s m below meth c T X hx hZ hby hml hown hnm hret hlk e0
  rw [ef_3]
  exact bk3_0 X hx hZ hw hby hml hown hret hlk e0 (Fr.nil n0) F_from F_ends F_endsFrom V_ends E_ob x1 hbx
theorem own_m (x m : Int32) {k : Nat} (hk : k < 32) (hm : m.toBitVec.toNat = 2 ^ k - 1) : 0 ≤ (x &&& m).toInt ∧ (x &&& m).toInt < 2 ^ k := by
  rw [Jvm.Kit.i32_mask x m hk hm]
  exact ⟨Int.emod_nonneg _ (by have : (0 : Int) < 2 ^ k := Int.pow_pos (by decide); omega), Int.emod_lt_of_pos _ (Int.pow_pos (by decide))⟩
theorem own_one : (1 : Int32).toInt = 1 := by decide
theorem own_zero : (0 : Int32).toInt = 0 := by decide
theorem own_toInt {x y : Int32} (h : x.toInt = y.toInt) : x = y := Int32.toInt_inj.mp h
theorem own_and1 (x : Int32) : x &&& 1 = 0 ∨ x &&& 1 = 1 := and_one x
theorem own_and3 (x : Int32) : x &&& 3 = 0 ∨ x &&& 3 = 1 ∨ x &&& 3 = 2 ∨ x &&& 3 = 3 := by
  obtain ⟨h1, h2⟩ := own_m x 3 (k := 2) (by decide) (by decide)
  have e1 : (1 : Int32).toInt = 1 := by decide
  have e2 : (2 : Int32).toInt = 2 := by decide
  have e3 : (3 : Int32).toInt = 3 := by decide
  have e0 : (0 : Int32).toInt = 0 := by decide
  have : (x &&& 3).toInt = 0 ∨ (x &&& 3).toInt = 1 ∨ (x &&& 3).toInt = 2 ∨ (x &&& 3).toInt = 3 := by omega
  rcases this with h | h | h | h
  · exact Or.inl (own_toInt (h.trans e0.symm))
  · exact Or.inr (Or.inl (own_toInt (h.trans e1.symm)))
  · exact Or.inr (Or.inr (Or.inl (own_toInt (h.trans e2.symm))))
  · exact Or.inr (Or.inr (Or.inr (own_toInt (h.trans e3.symm))))
theorem own_b01 {c : Prop} [Decidable c] {v : Int32} (h : v = if c then 0 else 1) : v = 0 ∨ v = 1 := by subst h; split <;> simp
theorem own_b10 {c : Prop} [Decidable c] {v : Int32} (h : v = if c then 1 else 0) : v = 0 ∨ v = 1 := by subst h; split <;> simp
theorem own_not (x : Int32) : x ^^^ (-1) = -1 - x := by
  apply Int32.toBitVec_inj.mp
  have e1 : (x ^^^ (-1)).toBitVec = ~~~ x.toBitVec := by
    rw [Int32.toBitVec_xor, show (-1 : Int32).toBitVec = BitVec.allOnes 32 from rfl, BitVec.xor_allOnes]
  have e2 : (-1 - x).toBitVec = BitVec.allOnes 32 - x.toBitVec := by
    rw [Int32.toBitVec_sub]; rfl
  rw [e1, e2, BitVec.allOnes_sub_eq_not]
theorem own_not_int (x : Int32) : (x ^^^ (-1)).toInt = -1 - x.toInt := by
  have e : (-1 : Int32).toInt = -1 := by decide
  have h1 := x.toInt_lt
  have h2 := x.le_toInt
  rw [own_not, Jvm.Kit.i32_sub (by rw [e]; omega) (by rw [e]; omega), e]
theorem own_rng {x y ef ps idx : Int32} (hef : ef = x &&& 3) (hps : ps = y &&& 3) (hidx : idx = ef + ps - 1) : idx.toInt = ef.toInt + ps.toInt - 1 ∧ 0 ≤ ef.toInt ∧ ef.toInt < 4 ∧ 0 ≤ ps.toInt ∧ ps.toInt < 4 := by
  have h1 := own_m x 3 (k := 2) (by decide) (by decide)
  have h2 := own_m y 3 (k := 2) (by decide) (by decide)
  rw [← hef] at h1
  rw [← hps] at h2
  have h3 : (ef + ps).toInt = ef.toInt + ps.toInt := Jvm.Kit.i32_add (by omega) (by omega)
  rw [hidx, Jvm.Kit.i32_sub (by rw [h3, own_one]; omega) (by rw [h3, own_one]; omega), h3, own_one]
  omega
theorem own_nn {j : Int32} {n : Nat} (h1 : 0 ≤ j.toInt) (h2 : j.toInt < n) : ¬ j < 0 ∧ j.toNatClampNeg < n := by
  rw [Int32.lt_iff_toInt_lt, own_zero]
  refine ⟨by omega, ?_⟩
  show j.toInt.toNat < n
  omega
theorem own_up {idx : Int32} (h1 : -1 ≤ idx.toInt) (h2 : idx.toInt ≤ 5) : (idx + 1).toInt = idx.toInt + 1 := by
  rw [Jvm.Kit.i32_add (by rw [own_one]; omega) (by rw [own_one]; omega), own_one]
theorem own_dn {idx : Int32} (h1 : -1 ≤ idx.toInt) (h2 : idx.toInt ≤ 5) : (idx - 1).toInt = idx.toInt - 1 := by
  rw [Jvm.Kit.i32_sub (by rw [own_one]; omega) (by rw [own_one]; omega), own_one]
theorem own_b1 {x y ef ps idx : Int32} (hef : ef = x &&& 3) (hps : ps = y &&& 3) (hidx : idx = ef + ps - 1) : ¬ (idx + 1) < 0 ∧ (idx + 1).toNatClampNeg < 7 := by
  have h := own_rng hef hps hidx
  have := own_up (idx := idx) (by omega) (by omega)
  exact own_nn (by omega) (by omega)
theorem own_b2 {x y ef ps idx : Int32} (hef : ef = x &&& 3) (hps : ps = y &&& 3) (hidx : idx = ef + ps - 1) (hc : ¬ (idx - 1) < 0) : ¬ (idx - 1) < 0 ∧ (idx - 1).toNatClampNeg < 7 := by
  have h := own_rng hef hps hidx
  have h3 := own_dn (idx := idx) (by omega) (by omega)
  rw [Int32.lt_iff_toInt_lt, own_zero] at hc
  exact own_nn (by omega) (by omega)
theorem own_b3 {x y ef ps idx : Int32} (hef : ef = x &&& 3) (hps : ps = y &&& 3) (hidx : idx = ef + ps - 1) (hc : ¬ idx < 0) : ¬ idx < 0 ∧ idx.toNatClampNeg < 7 := by
  have h := own_rng hef hps hidx
  rw [Int32.lt_iff_toInt_lt, own_zero] at hc
  exact own_nn (by omega) (by omega)
theorem own_at {x y ef ps idx : Int32} (hef : ef = x &&& 3) (hps : ps = y &&& 3) (hidx : idx = ef + ps - 1) : ef + (ps - 1) = idx := by
  rw [hidx]
  apply own_toInt
  simp only [Int32.toInt_add, Int32.toInt_sub]
  have h := own_rng hef hps hidx
  rw [own_one, Jvm.Kit.bmod32 (n := ps.toInt - 1) (by omega) (by omega), Jvm.Kit.bmod32 (n := ef.toInt + ps.toInt) (by omega) (by omega)]
  congr 1
  omega
theorem own_hb {x y ef ps : Int32} {vs : List Int32} (hef : ef = x &&& 3) (hps : ps = y &&& 3) (hl : vs.length = 7) : ¬ (ps = 0) → ¬ (ef + (ps - 1)) < 0 ∧ (ef + (ps - 1)).toNatClampNeg < vs.length := by
  intro hne
  have h := own_rng hef hps rfl
  have hne' : ps.toInt ≠ 0 := fun q => hne (own_toInt (q.trans own_zero.symm))
  rw [own_at hef hps rfl, hl]
  exact own_nn (by omega) (by omega)
theorem own_neg {x y ef ps idx : Int32} (hef : ef = x &&& 3) (hps : ps = y &&& 3) (hidx : idx = ef + ps - 1) (hc : idx < 0) : ps = 0 := by
  have h := own_rng hef hps hidx
  rw [Int32.lt_iff_toInt_lt, own_zero] at hc
  apply own_toInt
  rw [own_zero]
  omega
theorem own_law {x y ef ps idx fr e st pn got : Int32} {vs : List Int32} (hef : ef = x &&& 3) (hps : ps = y &&& 3) (hidx : idx = ef + ps - 1) (e0 : 0 ≤ e.toInt) (hst : st = (if pn = 0 then e else e ^^^ (-1))) (hne : ¬ ps = 0) (hvs : vs.getD idx.toNatClampNeg 0 = st) (hgot : got = K3_0 fr ef vs ps) : got = e + 1 := by
  rw [hgot, K3_0, if_neg hne, K4_0, own_at hef hps hidx, hvs, hst]
  by_cases hp : pn = 0
  · rw [if_pos hp, if_neg]
    rw [Int32.lt_iff_toInt_lt, own_zero]; omega
  · rw [if_neg hp, if_pos]
    · congr 1
      apply own_toInt
      rw [own_not_int, own_not_int]
      omega
    · rw [Int32.lt_iff_toInt_lt, own_zero, own_not_int]; omega
theorem own_getset {vs : List Int32} {j : Nat} {v : Int32} (h : j < vs.length) : (vs.set j v).getD j 0 = v := by simp [h]
theorem ef_0 (m : MethodId) (x0 : Int32) (x1 : Int32) (x2 : Int32) (x3 : Int32) (x4 : Int32) (x5 : Int32) : entryFrame m #[(.int x0), (.int x1), (.int x2), (.int x3), (.int x4), (.int x5)] maxLocals = mkF m 0 #[.val (.int x0), .val (.int x1), .val (.int x2), .val (.int x3), .val (.int x4), .val (.int x5), .unset, .unset, .unset, .unset, .unset, .unset, .unset, .unset, .unset, .unset, .unset] [] := by first | (simp [entryFrame, mkF, argsToLocals, Value.category, maxLocals]; done) | rfl
set_option maxRecDepth 65536 in
set_option maxHeartbeats 40000000 in
theorem rm0 (l : Launch) (Z : State) (a0 : Array Value) (hw : ∀ d ∈ tables_1, d.before a0 Z = true) (x0 : Int32) (x1 : Int32) (x2 : Int32) (x3 : Int32) (x4 : Int32) (x5 : Int32) (h0 : Heap) (n0 : Nat) (Z0 : n0 ≤ h0.size) :
    Con l Z x code maxLocals ret room_1 #[(.int x0), (.int x1), (.int x2), (.int x3), (.int x4), (.int x5)] h0 (QL (some (.int 1)) n0) := by
  refine Con.of (plainFor_of_name (by first | (simp [plainName, overriddenIn]; done) | decide +kernel)) ?_
  intro p e s m below meth c T X hx hZ hby hml hown hnm hret hlk e0
  rw [ef_0]
  have N0 := Fr.nil n0
  show Go p e below s room_1.cells room_1.slots (QL (some (.int 1)) n0) T (mkF m 0 #[.val (.int x0), .val (.int x1), .val (.int x2), .val (.int x3), .val (.int x4), .val (.int x5), .unset, .unset, .unset, .unset, .unset, .unset, .unset, .unset, .unset, .unset, .unset] [])
  refine w_iload X hx (hb hby at_0) (pc' := 2) rfl rfl ?_
  refine w_iconst (v := 3) X hx (hb hby at_2) (pc' := 3) rfl rfl ?_
  refine w_iand X hx (hb hby at_3) (pc' := 4) rfl ?_
  refine w_istore (Ls' := #[.val (.int x0), .val (.int x1), .val (.int x2), .val (.int x3), .val (.int x4), .val (.int x5), .val (.int (x5 &&& (3 : Int32))), .unset, .unset, .unset, .unset, .unset, .unset, .unset, .unset, .unset, .unset]) X hx (hb hby at_4) (pc' := 6) rfl rfl ?_
  obtain ⟨ef, hef⟩ : ∃ z : Int32, z = (x5 &&& (3 : Int32)) := ⟨_, rfl⟩
  rw [← hef]
  refine w_iload X hx (hb hby at_6) (pc' := 8) rfl rfl ?_
  refine w_iconst (v := 2) X hx (hb hby at_8) (pc' := 9) rfl rfl ?_
  refine w_iushr X hx (hb hby at_9) (pc' := 10) rfl ?_
  refine w_iconst (v := 3) X hx (hb hby at_10) (pc' := 11) rfl rfl ?_
  refine w_iand X hx (hb hby at_11) (pc' := 12) rfl ?_
  refine w_istore (Ls' := #[.val (.int x0), .val (.int x1), .val (.int x2), .val (.int x3), .val (.int x4), .val (.int x5), .val (.int ef), .val (.int ((jushr x5 (2 : Int32)) &&& (3 : Int32))), .unset, .unset, .unset, .unset, .unset, .unset, .unset, .unset, .unset]) X hx (hb hby at_12) (pc' := 14) rfl rfl ?_
  obtain ⟨ps, hps⟩ : ∃ z : Int32, z = ((jushr x5 (2 : Int32)) &&& (3 : Int32)) := ⟨_, rfl⟩
  rw [← hps]
  refine w_iload X hx (hb hby at_14) (pc' := 16) rfl rfl ?_
  refine w_iconst (v := 4) X hx (hb hby at_16) (pc' := 17) rfl rfl ?_
  refine w_iushr X hx (hb hby at_17) (pc' := 18) rfl ?_
  refine w_iconst (v := 1) X hx (hb hby at_18) (pc' := 19) rfl rfl ?_
  refine w_iand X hx (hb hby at_19) (pc' := 20) rfl ?_
  have J28_48 : ∀ (v47 : Int32), v47 = (if ((jushr x5 (4 : Int32)) &&& (1 : Int32)) = (0 : Int32) then (0 : Int32) else (1 : Int32)) → Go p e below s room_1.cells room_1.slots (QL (some (.int 1)) n0) T (mkF m 28 #[.val (.int x0), .val (.int x1), .val (.int x2), .val (.int x3), .val (.int x4), .val (.int x5), .val (.int ef), .val (.int ps), .unset, .unset, .unset, .unset, .unset, .unset, .unset, .unset, .unset] [(.int v47)]) := by
    intro v47 hv47
    refine w_istore (Ls' := #[.val (.int x0), .val (.int x1), .val (.int x2), .val (.int x3), .val (.int x4), .val (.int x5), .val (.int ef), .val (.int ps), .val (.int v47), .unset, .unset, .unset, .unset, .unset, .unset, .unset, .unset]) X hx (hb hby at_28) (pc' := 30) rfl rfl ?_
    refine w_iload X hx (hb hby at_30) (pc' := 32) rfl rfl ?_
    refine w_iconst (v := 5) X hx (hb hby at_32) (pc' := 33) rfl rfl ?_
    refine w_iushr X hx (hb hby at_33) (pc' := 34) rfl ?_
    refine w_iconst (v := 1) X hx (hb hby at_34) (pc' := 35) rfl rfl ?_
    refine w_iand X hx (hb hby at_35) (pc' := 36) rfl ?_
    have J44_50 : ∀ (v49 : Int32), v49 = (if ((jushr x5 (5 : Int32)) &&& (1 : Int32)) = (0 : Int32) then (0 : Int32) else (1 : Int32)) → Go p e below s room_1.cells room_1.slots (QL (some (.int 1)) n0) T (mkF m 44 #[.val (.int x0), .val (.int x1), .val (.int x2), .val (.int x3), .val (.int x4), .val (.int x5), .val (.int ef), .val (.int ps), .val (.int v47), .unset, .unset, .unset, .unset, .unset, .unset, .unset, .unset] [(.int v49)]) := by
      intro v49 hv49
      refine w_istore (Ls' := #[.val (.int x0), .val (.int x1), .val (.int x2), .val (.int x3), .val (.int x4), .val (.int x5), .val (.int ef), .val (.int ps), .val (.int v47), .val (.int v49), .unset, .unset, .unset, .unset, .unset, .unset, .unset]) X hx (hb hby at_44) (pc' := 46) rfl rfl ?_
      refine w_iloadN X hx (hb hby at_46) (pc' := 47) rfl rfl ?_
      refine w_ldc X hx hZ hown (hw _ (List.mem_of_getElem? (i := 0) rfl)) (hb hby at_47) (pc' := 49) rfl ?_
      refine w_iand X hx (hb hby at_49) (pc' := 50) rfl ?_
      refine w_istore (Ls' := #[.val (.int x0), .val (.int x1), .val (.int x2), .val (.int x3), .val (.int x4), .val (.int x5), .val (.int ef), .val (.int ps), .val (.int v47), .val (.int v49), .val (.int (x1 &&& (2147483647 : Int32))), .unset, .unset, .unset, .unset, .unset, .unset]) X hx (hb hby at_50) (pc' := 52) rfl rfl ?_
      obtain ⟨ee, hee⟩ : ∃ z : Int32, z = (x1 &&& (2147483647 : Int32)) := ⟨_, rfl⟩
      rw [← hee]
      refine w_iload X hx (hb hby at_52) (pc' := 54) rfl rfl ?_
      have J66_52 : ∀ (v51 : Int32), v51 = (if v47 = (0 : Int32) then ee else (ee ^^^ (-1 : Int32))) → Go p e below s room_1.cells room_1.slots (QL (some (.int 1)) n0) T (mkF m 66 #[.val (.int x0), .val (.int x1), .val (.int x2), .val (.int x3), .val (.int x4), .val (.int x5), .val (.int ef), .val (.int ps), .val (.int v47), .val (.int v49), .val (.int ee), .unset, .unset, .unset, .unset, .unset, .unset] [(.int v51)]) := by
        intro v51 hv51
        refine w_istore (Ls' := #[.val (.int x0), .val (.int x1), .val (.int x2), .val (.int x3), .val (.int x4), .val (.int x5), .val (.int ef), .val (.int ps), .val (.int v47), .val (.int v49), .val (.int ee), .val (.int v51), .unset, .unset, .unset, .unset, .unset]) X hx (hb hby at_66) (pc' := 68) rfl rfl ?_
        refine w_bipush (v := 7) X hx (hb hby at_68) (pc' := 70) rfl rfl ?_
        refine w_newI X hx hZ (cap := 7) e0 (hw _ (List.mem_of_getElem? (i := 1) rfl)) (by decide) (by decide) (by decide) (by decide) (by decide) (hb hby at_70) (pc' := 72) rfl (fun T53 h53 b53 X53 e53 E53 q53 V53 => ?_)
        have g_b53 : n0 ≤ b53 := by rw [q53]; exact Z0
        have V53 : AI Z h53 b53 .int [(0 : Int32), (0 : Int32), (0 : Int32), (0 : Int32), (0 : Int32), (0 : Int32), (0 : Int32)] := V53
        have zn53 : n0 ≤ h53.size := Nat.le_trans Z0 E53.1
        refine w_dup X53 hx (hb hby at_72) (pc' := 73) rfl rfl ?_
        refine w_iconst (v := 0) X53 hx (hb hby at_73) (pc' := 74) rfl rfl ?_
        refine w_iload X53 hx (hb hby at_74) (pc' := 76) rfl rfl ?_
        refine w_iastore X53 hx hZ e53 V53 (by decide) (by show _ < 7; decide) (hb hby at_76) (pc' := 77) rfl (fun T54 h54 X54 e54 W54 V54 => ?_)
        have V54 : AI Z h54 b53 .int [x4, (0 : Int32), (0 : Int32), (0 : Int32), (0 : Int32), (0 : Int32), (0 : Int32)] := V54
        have N54 := Fr.snoc X54 N0 g_b53
        have zn54 : n0 ≤ h54.size := by rw [W54.size]; exact zn53
        refine w_dup X54 hx (hb hby at_77) (pc' := 78) rfl rfl ?_
        refine w_iconst (v := 1) X54 hx (hb hby at_78) (pc' := 79) rfl rfl ?_
        refine w_iload X54 hx (hb hby at_79) (pc' := 81) rfl rfl ?_
        refine w_iastore X54 hx hZ e54 V54 (by decide) (by show _ < 7; decide) (hb hby at_81) (pc' := 82) rfl (fun T55 h55 X55 e55 W55 V55 => ?_)
        have V55 : AI Z h55 b53 .int [x4, x4, (0 : Int32), (0 : Int32), (0 : Int32), (0 : Int32), (0 : Int32)] := V55
        have N55 := Fr.snoc X55 N54 g_b53
        have zn55 : n0 ≤ h55.size := by rw [W55.size]; exact zn54
        refine w_dup X55 hx (hb hby at_82) (pc' := 83) rfl rfl ?_
        refine w_iconst (v := 2) X55 hx (hb hby at_83) (pc' := 84) rfl rfl ?_
        refine w_iload X55 hx (hb hby at_84) (pc' := 86) rfl rfl ?_
        refine w_iastore X55 hx hZ e55 V55 (by decide) (by show _ < 7; decide) (hb hby at_86) (pc' := 87) rfl (fun T56 h56 X56 e56 W56 V56 => ?_)
        have V56 : AI Z h56 b53 .int [x4, x4, x4, (0 : Int32), (0 : Int32), (0 : Int32), (0 : Int32)] := V56
        have N56 := Fr.snoc X56 N55 g_b53
        have zn56 : n0 ≤ h56.size := by rw [W56.size]; exact zn55
        refine w_dup X56 hx (hb hby at_87) (pc' := 88) rfl rfl ?_
        refine w_iconst (v := 3) X56 hx (hb hby at_88) (pc' := 89) rfl rfl ?_
        refine w_iload X56 hx (hb hby at_89) (pc' := 91) rfl rfl ?_
        refine w_iastore X56 hx hZ e56 V56 (by decide) (by show _ < 7; decide) (hb hby at_91) (pc' := 92) rfl (fun T57 h57 X57 e57 W57 V57 => ?_)
        have V57 : AI Z h57 b53 .int [x4, x4, x4, x4, (0 : Int32), (0 : Int32), (0 : Int32)] := V57
        have N57 := Fr.snoc X57 N56 g_b53
        have zn57 : n0 ≤ h57.size := by rw [W57.size]; exact zn56
        refine w_dup X57 hx (hb hby at_92) (pc' := 93) rfl rfl ?_
        refine w_iconst (v := 4) X57 hx (hb hby at_93) (pc' := 94) rfl rfl ?_
        refine w_iload X57 hx (hb hby at_94) (pc' := 96) rfl rfl ?_
        refine w_iastore X57 hx hZ e57 V57 (by decide) (by show _ < 7; decide) (hb hby at_96) (pc' := 97) rfl (fun T58 h58 X58 e58 W58 V58 => ?_)
        have V58 : AI Z h58 b53 .int [x4, x4, x4, x4, x4, (0 : Int32), (0 : Int32)] := V58
        have N58 := Fr.snoc X58 N57 g_b53
        have zn58 : n0 ≤ h58.size := by rw [W58.size]; exact zn57
        refine w_dup X58 hx (hb hby at_97) (pc' := 98) rfl rfl ?_
        refine w_iconst (v := 5) X58 hx (hb hby at_98) (pc' := 99) rfl rfl ?_
        refine w_iload X58 hx (hb hby at_99) (pc' := 101) rfl rfl ?_
        refine w_iastore X58 hx hZ e58 V58 (by decide) (by show _ < 7; decide) (hb hby at_101) (pc' := 102) rfl (fun T59 h59 X59 e59 W59 V59 => ?_)
        have V59 : AI Z h59 b53 .int [x4, x4, x4, x4, x4, x4, (0 : Int32)] := V59
        have N59 := Fr.snoc X59 N58 g_b53
        have zn59 : n0 ≤ h59.size := by rw [W59.size]; exact zn58
        refine w_dup X59 hx (hb hby at_102) (pc' := 103) rfl rfl ?_
        refine w_bipush (v := 6) X59 hx (hb hby at_103) (pc' := 105) rfl rfl ?_
        refine w_iload X59 hx (hb hby at_105) (pc' := 107) rfl rfl ?_
        refine w_iastore X59 hx hZ e59 V59 (by decide) (by show _ < 7; decide) (hb hby at_107) (pc' := 108) rfl (fun T60 h60 X60 e60 W60 V60 => ?_)
        have V60 : AI Z h60 b53 .int [x4, x4, x4, x4, x4, x4, x4] := V60
        have N60 := Fr.snoc X60 N59 g_b53
        have zn60 : n0 ≤ h60.size := by rw [W60.size]; exact zn59
        refine w_astore (Ls' := #[.val (.int x0), .val (.int x1), .val (.int x2), .val (.int x3), .val (.int x4), .val (.int x5), .val (.int ef), .val (.int ps), .val (.int v47), .val (.int v49), .val (.int ee), .val (.int v51), .val (.ref b53), .unset, .unset, .unset, .unset]) X60 hx (hb hby at_108) (pc' := 110) rfl rfl rfl ?_
        refine w_iload X60 hx (hb hby at_110) (pc' := 112) rfl rfl ?_
        refine w_iload X60 hx (hb hby at_112) (pc' := 114) rfl rfl ?_
        refine w_iadd X60 hx (hb hby at_114) (pc' := 115) rfl ?_
        refine w_iconst (v := 1) X60 hx (hb hby at_115) (pc' := 116) rfl rfl ?_
        refine w_isub X60 hx (hb hby at_116) (pc' := 117) rfl ?_
        refine w_istore (Ls' := #[.val (.int x0), .val (.int x1), .val (.int x2), .val (.int x3), .val (.int x4), .val (.int x5), .val (.int ef), .val (.int ps), .val (.int v47), .val (.int v49), .val (.int ee), .val (.int v51), .val (.ref b53), .val (.int ((ef + ps) - (1 : Int32))), .unset, .unset, .unset]) X60 hx (hb hby at_117) (pc' := 119) rfl rfl ?_
        obtain ⟨idx, hidx⟩ : ∃ z : Int32, z = ((ef + ps) - (1 : Int32)) := ⟨_, rfl⟩
        rw [← hidx]
        refine w_aload X60 hx (hb hby at_119) (pc' := 121) rfl rfl rfl ?_
        refine w_iload X60 hx (hb hby at_121) (pc' := 123) rfl rfl ?_
        refine w_iconst (v := 1) X60 hx (hb hby at_123) (pc' := 124) rfl rfl ?_
        refine w_iadd X60 hx (hb hby at_124) (pc' := 125) rfl ?_
        refine w_iloadN X60 hx (hb hby at_125) (pc' := 126) rfl rfl ?_
        refine w_iastore X60 hx hZ e60 V60 (own_b1 hef hps hidx).1 (by first | exact (own_b1 hef hps hidx).2 | (simp only [List.length_set]; exact (own_b1 hef hps hidx).2)) (hb hby at_126) (pc' := 127) rfl (fun T61 h61 X61 e61 W61 V61 => ?_)
        have N61 := Fr.snoc X61 N60 g_b53
        have zn61 : n0 ≤ h61.size := by rw [W61.size]; exact zn60
        refine w_iload X61 hx (hb hby at_127) (pc' := 129) rfl rfl ?_
        refine w_iconst (v := 1) X61 hx (hb hby at_129) (pc' := 130) rfl rfl ?_
        refine w_isub X61 hx (hb hby at_130) (pc' := 131) rfl ?_
        refine w_if_lt X61 hx (hb hby at_131) (pf := 134) (pt := 142) rfl (by decide) (by decide) (fun hc131 => ?_) (fun hc131 => ?_)
        · refine w_iload X61 hx (hb hby at_142) (pc' := 144) rfl rfl ?_
          refine w_if_lt X61 hx (hb hby at_144) (pf := 147) (pt := 154) rfl (by decide) (by decide) (fun hc144 => ?_) (fun hc144 => ?_)
          · refine w_newO X61 hx hZ hown e61 (hw _ (List.mem_of_getElem? (i := 2) rfl)) (hw _ (List.mem_of_getElem? (i := 3) rfl)) (hw _ (List.mem_of_getElem? (i := 4) rfl)) (hb hby at_154) (by decide) (by decide) (pc' := 157) rfl (fun T62 h62 b62 X62 e62 E62 q62 A62 D62 => ?_)
            have g_b62 : n0 ≤ b62 := by rw [q62]; exact zn61
            have ne_b53_b62 : b53 ≠ b62 := by rw [q62]; exact Nat.ne_of_lt V61.lt
            have F_header_b62 : Fld Z h62 b62 "com/example/tallyshare/tallyshare/InputRow" "header" "Ljava/util/Map;" .null := D62 (Or.inr (hw _ (List.mem_of_getElem? (i := 13) rfl))) (ty := (.object "java/util/Map")) (by decide)
            have F_text_b62 : Fld Z h62 b62 "com/example/tallyshare/tallyshare/InputRow" "text" "[B" .null := D62 (Or.inr (hw _ (List.mem_of_getElem? (i := 15) rfl))) (ty := (.array .byte)) (by decide)
            have F_from_b62 : Fld Z h62 b62 "com/example/tallyshare/tallyshare/InputRow" "from" "I" (.int (0 : Int32)) := D62 (Or.inr (hw _ (List.mem_of_getElem? (i := 17) rfl))) (ty := .int) (by decide)
            have F_ends_b62 : Fld Z h62 b62 "com/example/tallyshare/tallyshare/InputRow" "ends" "[I" .null := D62 (Or.inr (hw _ (List.mem_of_getElem? (i := 19) rfl))) (ty := (.array .int)) (by decide)
            have F_endsFrom_b62 : Fld Z h62 b62 "com/example/tallyshare/tallyshare/InputRow" "endsFrom" "I" (.int (0 : Int32)) := D62 (Or.inr (hw _ (List.mem_of_getElem? (i := 21) rfl))) (ty := .int) (by decide)
            have F_atListPrice_b62 : Fld Z h62 b62 "com/example/tallyshare/tallyshare/InputRow" "atListPrice" "Z" (.int (0 : Int32)) := D62 (Or.inr (hw _ (List.mem_of_getElem? (i := 23) rfl))) (ty := .boolean) (by decide)
            have zn62 : n0 ≤ h62.size := Nat.le_trans zn61 E62.1
            refine w_dup X62 hx (hb hby at_157) (pc' := 158) rfl rfl ?_
            refine w_aconstNull X62 hx (hb hby at_158) (pc' := 159) rfl ?_
            refine w_iconst (v := 0) X62 hx (hb hby at_159) (pc' := 160) rfl rfl ?_
            refine w_newB X62 hx hZ (cap := 0) e62 (hw _ (List.mem_of_getElem? (i := 5) rfl)) (by decide) (by decide) (by decide) (by decide) (by decide) (hb hby at_160) (pc' := 162) rfl (fun T63 h63 b63 X63 e63 E63 q63 V63 => ?_)
            have g_b63 : n0 ≤ b63 := by rw [q63]; exact zn62
            have f64 := V61.ext E62
            have ne_b53_b63 : b53 ≠ b63 := by rw [q63]; exact Nat.ne_of_lt f64.lt
            have ne_b62_b63 : b62 ≠ b63 := by rw [q63]; exact Nat.ne_of_lt A62.lt
            have V63 : AI Z h63 b63 .byte [] := V63
            have zn63 : n0 ≤ h63.size := Nat.le_trans zn62 E63.1
            refine w_iloadN X63 hx (hb hby at_162) (pc' := 163) rfl rfl ?_
            refine w_aload X63 hx (hb hby at_163) (pc' := 165) rfl rfl rfl ?_
            refine w_iload X63 hx (hb hby at_165) (pc' := 167) rfl rfl ?_
            refine w_iload X63 hx (hb hby at_167) (pc' := 169) rfl rfl ?_
            have f66 := A62.ext E63
            have f67 := F_header_b62.ext E63
            have f68 := F_text_b62.ext E63
            have f69 := F_from_b62.ext E63
            have f70 := F_ends_b62.ext E63
            have f71 := F_endsFrom_b62.ext E63
            have f72 := F_atListPrice_b62.ext E63
            refine w_callI (argsL := [.null, (.ref b63), (.int x0), (.ref b53), (.int ef), (.int v49)]) (rest := [(.ref b62)]) (a := b62) X63 hx hZ hown e63 (rm1 l Z a0 hw b62 b63 x0 b53 ef v49 h63 n0 zn63 f66 g_b62 f67 f68 f69 f70 f71 f72 (own_b01 hv49)) rfl (hw _ (List.mem_of_getElem? (i := 6) rfl)) (hw _ (List.mem_of_getElem? (i := 7) rfl)) (hw _ (List.mem_of_getElem? (i := 4) rfl)) (hw _ (List.mem_of_getElem? (i := 8) rfl)) (by decide) (by decide) (W := 1) (by decide) (by decide) (by decide) (by rw [hml]; rfl) (lenOf pd_1 rfl) (Nat.le_refl _) rfl (hb hby at_169) (pc' := 172) rfl (fun T65 L65 v65 X65 hQ65 => ?_)
            obtain ⟨rfl, N65q, K65, F_header_65, F_text_65, F_from_65, F_ends_65, F_endsFrom_65, F_atListPrice_65⟩ := hQ65
            have zn65 : n0 ≤ T65.heap.size := Nat.le_trans zn63 K65.1
            have N65 := Fr.app N61 N65q
            have X65 : Stand p l e room_1 s m _ below meth c T65 _ 3 13 := X65
            show Go p e below s room_1.cells room_1.slots (QL (some (.int 1)) n0) T65 (mkF m 172 #[.val (.int x0), .val (.int x1), .val (.int x2), .val (.int x3), .val (.int x4), .val (.int x5), .val (.int ef), .val (.int ps), .val (.int v47), .val (.int v49), .val (.int ee), .val (.int v51), .val (.ref b53), .val (.int idx), .unset, .unset, .unset] [(.ref b62)])
            refine w_astore (Ls' := #[.val (.int x0), .val (.int x1), .val (.int x2), .val (.int x3), .val (.int x4), .val (.int x5), .val (.int ef), .val (.int ps), .val (.int v47), .val (.int v49), .val (.int ee), .val (.int v51), .val (.ref b53), .val (.int idx), .val (.ref b62), .unset, .unset]) X65 hx (hb hby at_172) (pc' := 174) rfl rfl rfl ?_
            refine w_aload X65 hx (hb hby at_174) (pc' := 176) rfl rfl rfl ?_
            refine w_iload X65 hx (hb hby at_176) (pc' := 178) rfl rfl ?_
            have f74 := f64.ext E63
            have f75 := f74.keep K65 (ninS ne_b53_b62 nin0)
            have f76 := f66.keep K65
            refine w_callV (argsL := [(.int ps)]) (rest := []) (a := b62) X65 hx hZ hown rfl f76 (rm3 l Z a0 hw b62 ps T65.heap n0 x0 ef ([x4, x4, x4, x4, x4, x4, x4].set ((idx + (1 : Int32))).toNatClampNeg x2) F_from_65 F_ends_65 F_endsFrom_65 f75 f76 (own_hb hef hps (by simp only [List.length_set]; rfl))) (hw _ (List.mem_of_getElem? (i := 24) rfl)) (hw _ (List.mem_of_getElem? (i := 25) rfl)) (hw _ (List.mem_of_getElem? (i := 27) rfl)) (hw _ (List.mem_of_getElem? (i := 26) rfl)) (hw _ (List.mem_of_getElem? (i := 4) rfl)) (hw _ (List.mem_of_getElem? (i := 28) rfl)) (by decide) (by decide) (W := 0) (by decide) (by decide) (by decide) (by rw [hml]; rfl) (lenOf pd_0 rfl) (Nat.le_refl _) rfl (hb hby at_178) (pc' := 181) rfl (fun T73 L73 v73 X73 hQ73 => ?_)
            obtain ⟨rfl, N73q, e73⟩ := hQ73
            have N73 := Fr.app N65 N73q
            have X73 : Stand p l e room_1 s m _ below meth c T73 _ 3 13 := X73
            show Go p e below s room_1.cells room_1.slots (QL (some (.int 1)) n0) T73 (mkF m 181 #[.val (.int x0), .val (.int x1), .val (.int x2), .val (.int x3), .val (.int x4), .val (.int x5), .val (.int ef), .val (.int ps), .val (.int v47), .val (.int v49), .val (.int ee), .val (.int v51), .val (.ref b53), .val (.int idx), .val (.ref b62), .unset, .unset] [(.int (K3_0 x0 ef ([x4, x4, x4, x4, x4, x4, x4].set ((idx + (1 : Int32))).toNatClampNeg x2) ps))])
            refine w_istore (Ls' := #[.val (.int x0), .val (.int x1), .val (.int x2), .val (.int x3), .val (.int x4), .val (.int x5), .val (.int ef), .val (.int ps), .val (.int v47), .val (.int v49), .val (.int ee), .val (.int v51), .val (.ref b53), .val (.int idx), .val (.ref b62), .val (.int (K3_0 x0 ef ([x4, x4, x4, x4, x4, x4, x4].set ((idx + (1 : Int32))).toNatClampNeg x2) ps)), .unset]) X73 hx (hb hby at_181) (pc' := 183) rfl rfl ?_
            obtain ⟨got, hgot⟩ : ∃ z : Int32, z = (K3_0 x0 ef ([x4, x4, x4, x4, x4, x4, x4].set ((idx + (1 : Int32))).toNatClampNeg x2) ps) := ⟨_, rfl⟩
            rw [← hgot]
            refine w_iload X73 hx (hb hby at_183) (pc' := 185) rfl rfl ?_
            refine w_if_ne X73 hx (hb hby at_185) (pf := 188) (pt := 194) rfl (by decide) (by decide) (fun hc185 => ?_) (fun hc185 => ?_)
            · refine w_iload X73 hx (hb hby at_194) (pc' := 196) rfl rfl ?_
              refine w_iconst (v := 1) X73 hx (hb hby at_196) (pc' := 197) rfl rfl ?_
              refine w_iadd X73 hx (hb hby at_197) (pc' := 198) rfl ?_
              refine w_istore (Ls' := #[.val (.int x0), .val (.int x1), .val (.int x2), .val (.int x3), .val (.int x4), .val (.int x5), .val (.int ef), .val (.int ps), .val (.int v47), .val (.int v49), .val (.int ee), .val (.int v51), .val (.ref b53), .val (.int idx), .val (.ref b62), .val (.int got), .val (.int (ee + (1 : Int32)))]) X73 hx (hb hby at_198) (pc' := 200) rfl rfl ?_
              refine w_iload X73 hx (hb hby at_200) (pc' := 202) rfl rfl ?_
              refine w_iload X73 hx (hb hby at_202) (pc' := 204) rfl rfl ?_
              have hf204 : got = (ee + (1 : Int32)) := by first | exact absurd (own_neg hef hps hidx hc144) hc185 | exact own_law hef hps hidx (by rw [hee]; exact (own_m x1 2147483647 (k := 31) (by decide) (by decide)).1) hv51 hc185 (own_getset (by simp only [List.length_set]; exact (own_b3 hef hps hidx hc144).2)) hgot
              refine w_icmp_ne X73 hx (hb hby at_204) (pf := 207) (pt := 211) rfl (by decide) (by decide) (fun hc => absurd hf204 hc) (fun hc204 => ?_)
              refine w_iconst (v := 1) X73 hx (hb hby at_207) (pc' := 208) rfl rfl ?_
              refine w_goto X73 hx (hb hby at_208) (pc' := 212) (by decide) (by decide) ?_
              exact w_retZ X73 hx hret hlk (hb hby at_212) (by decide) (by decide) ⟨rfl, N73⟩
            · refine w_iloadN X73 hx (hb hby at_188) (pc' := 189) rfl rfl ?_
              refine w_istore (Ls' := #[.val (.int x0), .val (.int x1), .val (.int x2), .val (.int x3), .val (.int x4), .val (.int x5), .val (.int ef), .val (.int ps), .val (.int v47), .val (.int v49), .val (.int ee), .val (.int v51), .val (.ref b53), .val (.int idx), .val (.ref b62), .val (.int got), .val (.int x0)]) X73 hx (hb hby at_189) (pc' := 191) rfl rfl ?_
              refine w_goto X73 hx (hb hby at_191) (pc' := 200) (by decide) (by decide) ?_
              refine w_iload X73 hx (hb hby at_200) (pc' := 202) rfl rfl ?_
              refine w_iload X73 hx (hb hby at_202) (pc' := 204) rfl rfl ?_
              have hf204 : got = x0 := by rw [hgot, K3_0, if_pos hc185]
              refine w_icmp_ne X73 hx (hb hby at_204) (pf := 207) (pt := 211) rfl (by decide) (by decide) (fun hc => absurd hf204 hc) (fun hc204 => ?_)
              refine w_iconst (v := 1) X73 hx (hb hby at_207) (pc' := 208) rfl rfl ?_
              refine w_goto X73 hx (hb hby at_208) (pc' := 212) (by decide) (by decide) ?_
              exact w_retZ X73 hx hret hlk (hb hby at_212) (by decide) (by decide) ⟨rfl, N73⟩
          · refine w_aload X61 hx (hb hby at_147) (pc' := 149) rfl rfl rfl ?_
            refine w_iload X61 hx (hb hby at_149) (pc' := 151) rfl rfl ?_
            refine w_iload X61 hx (hb hby at_151) (pc' := 153) rfl rfl ?_
            refine w_iastore X61 hx hZ e61 V61 (own_b3 hef hps hidx hc144).1 (by first | exact (own_b3 hef hps hidx hc144).2 | (simp only [List.length_set]; exact (own_b3 hef hps hidx hc144).2)) (hb hby at_153) (pc' := 154) rfl (fun T77 h77 X77 e77 W77 V77 => ?_)
            have N77 := Fr.snoc X77 N61 g_b53
            have zn77 : n0 ≤ h77.size := by rw [W77.size]; exact zn61
            refine w_newO X77 hx hZ hown e77 (hw _ (List.mem_of_getElem? (i := 2) rfl)) (hw _ (List.mem_of_getElem? (i := 3) rfl)) (hw _ (List.mem_of_getElem? (i := 4) rfl)) (hb hby at_154) (by decide) (by decide) (pc' := 157) rfl (fun T78 h78 b78 X78 e78 E78 q78 A78 D78 => ?_)
            have g_b78 : n0 ≤ b78 := by rw [q78]; exact zn77
            have ne_b53_b78 : b53 ≠ b78 := by rw [q78]; exact Nat.ne_of_lt V77.lt
            have F_header_b78 : Fld Z h78 b78 "com/example/tallyshare/tallyshare/InputRow" "header" "Ljava/util/Map;" .null := D78 (Or.inr (hw _ (List.mem_of_getElem? (i := 13) rfl))) (ty := (.object "java/util/Map")) (by decide)
            have F_text_b78 : Fld Z h78 b78 "com/example/tallyshare/tallyshare/InputRow" "text" "[B" .null := D78 (Or.inr (hw _ (List.mem_of_getElem? (i := 15) rfl))) (ty := (.array .byte)) (by decide)
            have F_from_b78 : Fld Z h78 b78 "com/example/tallyshare/tallyshare/InputRow" "from" "I" (.int (0 : Int32)) := D78 (Or.inr (hw _ (List.mem_of_getElem? (i := 17) rfl))) (ty := .int) (by decide)
            have F_ends_b78 : Fld Z h78 b78 "com/example/tallyshare/tallyshare/InputRow" "ends" "[I" .null := D78 (Or.inr (hw _ (List.mem_of_getElem? (i := 19) rfl))) (ty := (.array .int)) (by decide)
            have F_endsFrom_b78 : Fld Z h78 b78 "com/example/tallyshare/tallyshare/InputRow" "endsFrom" "I" (.int (0 : Int32)) := D78 (Or.inr (hw _ (List.mem_of_getElem? (i := 21) rfl))) (ty := .int) (by decide)
            have F_atListPrice_b78 : Fld Z h78 b78 "com/example/tallyshare/tallyshare/InputRow" "atListPrice" "Z" (.int (0 : Int32)) := D78 (Or.inr (hw _ (List.mem_of_getElem? (i := 23) rfl))) (ty := .boolean) (by decide)
            have zn78 : n0 ≤ h78.size := Nat.le_trans zn77 E78.1
            refine w_dup X78 hx (hb hby at_157) (pc' := 158) rfl rfl ?_
            refine w_aconstNull X78 hx (hb hby at_158) (pc' := 159) rfl ?_
            refine w_iconst (v := 0) X78 hx (hb hby at_159) (pc' := 160) rfl rfl ?_
            refine w_newB X78 hx hZ (cap := 0) e78 (hw _ (List.mem_of_getElem? (i := 5) rfl)) (by decide) (by decide) (by decide) (by decide) (by decide) (hb hby at_160) (pc' := 162) rfl (fun T79 h79 b79 X79 e79 E79 q79 V79 => ?_)
            have g_b79 : n0 ≤ b79 := by rw [q79]; exact zn78
            have f80 := V77.ext E78
            have ne_b53_b79 : b53 ≠ b79 := by rw [q79]; exact Nat.ne_of_lt f80.lt
            have ne_b78_b79 : b78 ≠ b79 := by rw [q79]; exact Nat.ne_of_lt A78.lt
            have V79 : AI Z h79 b79 .byte [] := V79
            have zn79 : n0 ≤ h79.size := Nat.le_trans zn78 E79.1
            refine w_iloadN X79 hx (hb hby at_162) (pc' := 163) rfl rfl ?_
            refine w_aload X79 hx (hb hby at_163) (pc' := 165) rfl rfl rfl ?_
            refine w_iload X79 hx (hb hby at_165) (pc' := 167) rfl rfl ?_
            refine w_iload X79 hx (hb hby at_167) (pc' := 169) rfl rfl ?_
            have f82 := A78.ext E79
            have f83 := F_header_b78.ext E79
            have f84 := F_text_b78.ext E79
            have f85 := F_from_b78.ext E79
            have f86 := F_ends_b78.ext E79
            have f87 := F_endsFrom_b78.ext E79
            have f88 := F_atListPrice_b78.ext E79
            refine w_callI (argsL := [.null, (.ref b79), (.int x0), (.ref b53), (.int ef), (.int v49)]) (rest := [(.ref b78)]) (a := b78) X79 hx hZ hown e79 (rm1 l Z a0 hw b78 b79 x0 b53 ef v49 h79 n0 zn79 f82 g_b78 f83 f84 f85 f86 f87 f88 (own_b01 hv49)) rfl (hw _ (List.mem_of_getElem? (i := 6) rfl)) (hw _ (List.mem_of_getElem? (i := 7) rfl)) (hw _ (List.mem_of_getElem? (i := 4) rfl)) (hw _ (List.mem_of_getElem? (i := 8) rfl)) (by decide) (by decide) (W := 1) (by decide) (by decide) (by decide) (by rw [hml]; rfl) (lenOf pd_1 rfl) (Nat.le_refl _) rfl (hb hby at_169) (pc' := 172) rfl (fun T81 L81 v81 X81 hQ81 => ?_)
            obtain ⟨rfl, N81q, K81, F_header_81, F_text_81, F_from_81, F_ends_81, F_endsFrom_81, F_atListPrice_81⟩ := hQ81
            have zn81 : n0 ≤ T81.heap.size := Nat.le_trans zn79 K81.1
            have N81 := Fr.app N77 N81q
            have X81 : Stand p l e room_1 s m _ below meth c T81 _ 3 13 := X81
            show Go p e below s room_1.cells room_1.slots (QL (some (.int 1)) n0) T81 (mkF m 172 #[.val (.int x0), .val (.int x1), .val (.int x2), .val (.int x3), .val (.int x4), .val (.int x5), .val (.int ef), .val (.int ps), .val (.int v47), .val (.int v49), .val (.int ee), .val (.int v51), .val (.ref b53), .val (.int idx), .unset, .unset, .unset] [(.ref b78)])
            refine w_astore (Ls' := #[.val (.int x0), .val (.int x1), .val (.int x2), .val (.int x3), .val (.int x4), .val (.int x5), .val (.int ef), .val (.int ps), .val (.int v47), .val (.int v49), .val (.int ee), .val (.int v51), .val (.ref b53), .val (.int idx), .val (.ref b78), .unset, .unset]) X81 hx (hb hby at_172) (pc' := 174) rfl rfl rfl ?_
            refine w_aload X81 hx (hb hby at_174) (pc' := 176) rfl rfl rfl ?_
            refine w_iload X81 hx (hb hby at_176) (pc' := 178) rfl rfl ?_
            have f90 := f80.ext E79
            have f91 := f90.keep K81 (ninS ne_b53_b78 nin0)
            have f92 := f82.keep K81
            refine w_callV (argsL := [(.int ps)]) (rest := []) (a := b78) X81 hx hZ hown rfl f92 (rm3 l Z a0 hw b78 ps T81.heap n0 x0 ef (([x4, x4, x4, x4, x4, x4, x4].set ((idx + (1 : Int32))).toNatClampNeg x2).set (idx).toNatClampNeg v51) F_from_81 F_ends_81 F_endsFrom_81 f91 f92 (own_hb hef hps (by simp only [List.length_set]; rfl))) (hw _ (List.mem_of_getElem? (i := 24) rfl)) (hw _ (List.mem_of_getElem? (i := 25) rfl)) (hw _ (List.mem_of_getElem? (i := 27) rfl)) (hw _ (List.mem_of_getElem? (i := 26) rfl)) (hw _ (List.mem_of_getElem? (i := 4) rfl)) (hw _ (List.mem_of_getElem? (i := 28) rfl)) (by decide) (by decide) (W := 0) (by decide) (by decide) (by decide) (by rw [hml]; rfl) (lenOf pd_0 rfl) (Nat.le_refl _) rfl (hb hby at_178) (pc' := 181) rfl (fun T89 L89 v89 X89 hQ89 => ?_)
            obtain ⟨rfl, N89q, e89⟩ := hQ89
            have N89 := Fr.app N81 N89q
            have X89 : Stand p l e room_1 s m _ below meth c T89 _ 3 13 := X89
            show Go p e below s room_1.cells room_1.slots (QL (some (.int 1)) n0) T89 (mkF m 181 #[.val (.int x0), .val (.int x1), .val (.int x2), .val (.int x3), .val (.int x4), .val (.int x5), .val (.int ef), .val (.int ps), .val (.int v47), .val (.int v49), .val (.int ee), .val (.int v51), .val (.ref b53), .val (.int idx), .val (.ref b78), .unset, .unset] [(.int (K3_0 x0 ef (([x4, x4, x4, x4, x4, x4, x4].set ((idx + (1 : Int32))).toNatClampNeg x2).set (idx).toNatClampNeg v51) ps))])
            refine w_istore (Ls' := #[.val (.int x0), .val (.int x1), .val (.int x2), .val (.int x3), .val (.int x4), .val (.int x5), .val (.int ef), .val (.int ps), .val (.int v47), .val (.int v49), .val (.int ee), .val (.int v51), .val (.ref b53), .val (.int idx), .val (.ref b78), .val (.int (K3_0 x0 ef (([x4, x4, x4, x4, x4, x4, x4].set ((idx + (1 : Int32))).toNatClampNeg x2).set (idx).toNatClampNeg v51) ps)), .unset]) X89 hx (hb hby at_181) (pc' := 183) rfl rfl ?_
            obtain ⟨got, hgot⟩ : ∃ z : Int32, z = (K3_0 x0 ef (([x4, x4, x4, x4, x4, x4, x4].set ((idx + (1 : Int32))).toNatClampNeg x2).set (idx).toNatClampNeg v51) ps) := ⟨_, rfl⟩
            rw [← hgot]
            refine w_iload X89 hx (hb hby at_183) (pc' := 185) rfl rfl ?_
            refine w_if_ne X89 hx (hb hby at_185) (pf := 188) (pt := 194) rfl (by decide) (by decide) (fun hc185 => ?_) (fun hc185 => ?_)
            · refine w_iload X89 hx (hb hby at_194) (pc' := 196) rfl rfl ?_
              refine w_iconst (v := 1) X89 hx (hb hby at_196) (pc' := 197) rfl rfl ?_
              refine w_iadd X89 hx (hb hby at_197) (pc' := 198) rfl ?_
              refine w_istore (Ls' := #[.val (.int x0), .val (.int x1), .val (.int x2), .val (.int x3), .val (.int x4), .val (.int x5), .val (.int ef), .val (.int ps), .val (.int v47), .val (.int v49), .val (.int ee), .val (.int v51), .val (.ref b53), .val (.int idx), .val (.ref b78), .val (.int got), .val (.int (ee + (1 : Int32)))]) X89 hx (hb hby at_198) (pc' := 200) rfl rfl ?_
              refine w_iload X89 hx (hb hby at_200) (pc' := 202) rfl rfl ?_
              refine w_iload X89 hx (hb hby at_202) (pc' := 204) rfl rfl ?_
              have hf204 : got = (ee + (1 : Int32)) := by first | exact absurd (own_neg hef hps hidx hc144) hc185 | exact own_law hef hps hidx (by rw [hee]; exact (own_m x1 2147483647 (k := 31) (by decide) (by decide)).1) hv51 hc185 (own_getset (by simp only [List.length_set]; exact (own_b3 hef hps hidx hc144).2)) hgot
              refine w_icmp_ne X89 hx (hb hby at_204) (pf := 207) (pt := 211) rfl (by decide) (by decide) (fun hc => absurd hf204 hc) (fun hc204 => ?_)
              refine w_iconst (v := 1) X89 hx (hb hby at_207) (pc' := 208) rfl rfl ?_
              refine w_goto X89 hx (hb hby at_208) (pc' := 212) (by decide) (by decide) ?_
              exact w_retZ X89 hx hret hlk (hb hby at_212) (by decide) (by decide) ⟨rfl, N89⟩
            · refine w_iloadN X89 hx (hb hby at_188) (pc' := 189) rfl rfl ?_
              refine w_istore (Ls' := #[.val (.int x0), .val (.int x1), .val (.int x2), .val (.int x3), .val (.int x4), .val (.int x5), .val (.int ef), .val (.int ps), .val (.int v47), .val (.int v49), .val (.int ee), .val (.int v51), .val (.ref b53), .val (.int idx), .val (.ref b78), .val (.int got), .val (.int x0)]) X89 hx (hb hby at_189) (pc' := 191) rfl rfl ?_
              refine w_goto X89 hx (hb hby at_191) (pc' := 200) (by decide) (by decide) ?_
              refine w_iload X89 hx (hb hby at_200) (pc' := 202) rfl rfl ?_
              refine w_iload X89 hx (hb hby at_202) (pc' := 204) rfl rfl ?_
              have hf204 : got = x0 := by rw [hgot, K3_0, if_pos hc185]
              refine w_icmp_ne X89 hx (hb hby at_204) (pf := 207) (pt := 211) rfl (by decide) (by decide) (fun hc => absurd hf204 hc) (fun hc204 => ?_)
              refine w_iconst (v := 1) X89 hx (hb hby at_207) (pc' := 208) rfl rfl ?_
              refine w_goto X89 hx (hb hby at_208) (pc' := 212) (by decide) (by decide) ?_
              exact w_retZ X89 hx hret hlk (hb hby at_212) (by decide) (by decide) ⟨rfl, N89⟩
        · refine w_aload X61 hx (hb hby at_134) (pc' := 136) rfl rfl rfl ?_
          refine w_iload X61 hx (hb hby at_136) (pc' := 138) rfl rfl ?_
          refine w_iconst (v := 1) X61 hx (hb hby at_138) (pc' := 139) rfl rfl ?_
          refine w_isub X61 hx (hb hby at_139) (pc' := 140) rfl ?_
          refine w_iloadN X61 hx (hb hby at_140) (pc' := 141) rfl rfl ?_
          refine w_iastore X61 hx hZ e61 V61 (own_b2 hef hps hidx hc131).1 (by first | exact (own_b2 hef hps hidx hc131).2 | (simp only [List.length_set]; exact (own_b2 hef hps hidx hc131).2)) (hb hby at_141) (pc' := 142) rfl (fun T93 h93 X93 e93 W93 V93 => ?_)
          have N93 := Fr.snoc X93 N61 g_b53
          have zn93 : n0 ≤ h93.size := by rw [W93.size]; exact zn61
          refine w_iload X93 hx (hb hby at_142) (pc' := 144) rfl rfl ?_
          refine w_if_lt X93 hx (hb hby at_144) (pf := 147) (pt := 154) rfl (by decide) (by decide) (fun hc144 => ?_) (fun hc144 => ?_)
          · refine w_newO X93 hx hZ hown e93 (hw _ (List.mem_of_getElem? (i := 2) rfl)) (hw _ (List.mem_of_getElem? (i := 3) rfl)) (hw _ (List.mem_of_getElem? (i := 4) rfl)) (hb hby at_154) (by decide) (by decide) (pc' := 157) rfl (fun T94 h94 b94 X94 e94 E94 q94 A94 D94 => ?_)
            have g_b94 : n0 ≤ b94 := by rw [q94]; exact zn93
            have ne_b53_b94 : b53 ≠ b94 := by rw [q94]; exact Nat.ne_of_lt V93.lt
            have F_header_b94 : Fld Z h94 b94 "com/example/tallyshare/tallyshare/InputRow" "header" "Ljava/util/Map;" .null := D94 (Or.inr (hw _ (List.mem_of_getElem? (i := 13) rfl))) (ty := (.object "java/util/Map")) (by decide)
            have F_text_b94 : Fld Z h94 b94 "com/example/tallyshare/tallyshare/InputRow" "text" "[B" .null := D94 (Or.inr (hw _ (List.mem_of_getElem? (i := 15) rfl))) (ty := (.array .byte)) (by decide)
            have F_from_b94 : Fld Z h94 b94 "com/example/tallyshare/tallyshare/InputRow" "from" "I" (.int (0 : Int32)) := D94 (Or.inr (hw _ (List.mem_of_getElem? (i := 17) rfl))) (ty := .int) (by decide)
            have F_ends_b94 : Fld Z h94 b94 "com/example/tallyshare/tallyshare/InputRow" "ends" "[I" .null := D94 (Or.inr (hw _ (List.mem_of_getElem? (i := 19) rfl))) (ty := (.array .int)) (by decide)
            have F_endsFrom_b94 : Fld Z h94 b94 "com/example/tallyshare/tallyshare/InputRow" "endsFrom" "I" (.int (0 : Int32)) := D94 (Or.inr (hw _ (List.mem_of_getElem? (i := 21) rfl))) (ty := .int) (by decide)
            have F_atListPrice_b94 : Fld Z h94 b94 "com/example/tallyshare/tallyshare/InputRow" "atListPrice" "Z" (.int (0 : Int32)) := D94 (Or.inr (hw _ (List.mem_of_getElem? (i := 23) rfl))) (ty := .boolean) (by decide)
            have zn94 : n0 ≤ h94.size := Nat.le_trans zn93 E94.1
            refine w_dup X94 hx (hb hby at_157) (pc' := 158) rfl rfl ?_
            refine w_aconstNull X94 hx (hb hby at_158) (pc' := 159) rfl ?_
            refine w_iconst (v := 0) X94 hx (hb hby at_159) (pc' := 160) rfl rfl ?_
            refine w_newB X94 hx hZ (cap := 0) e94 (hw _ (List.mem_of_getElem? (i := 5) rfl)) (by decide) (by decide) (by decide) (by decide) (by decide) (hb hby at_160) (pc' := 162) rfl (fun T95 h95 b95 X95 e95 E95 q95 V95 => ?_)
            have g_b95 : n0 ≤ b95 := by rw [q95]; exact zn94
            have f96 := V93.ext E94
            have ne_b53_b95 : b53 ≠ b95 := by rw [q95]; exact Nat.ne_of_lt f96.lt
            have ne_b94_b95 : b94 ≠ b95 := by rw [q95]; exact Nat.ne_of_lt A94.lt
            have V95 : AI Z h95 b95 .byte [] := V95
            have zn95 : n0 ≤ h95.size := Nat.le_trans zn94 E95.1
            refine w_iloadN X95 hx (hb hby at_162) (pc' := 163) rfl rfl ?_
            refine w_aload X95 hx (hb hby at_163) (pc' := 165) rfl rfl rfl ?_
            refine w_iload X95 hx (hb hby at_165) (pc' := 167) rfl rfl ?_
            refine w_iload X95 hx (hb hby at_167) (pc' := 169) rfl rfl ?_
            have f98 := A94.ext E95
            have f99 := F_header_b94.ext E95
            have f100 := F_text_b94.ext E95
            have f101 := F_from_b94.ext E95
            have f102 := F_ends_b94.ext E95
            have f103 := F_endsFrom_b94.ext E95
            have f104 := F_atListPrice_b94.ext E95
            refine w_callI (argsL := [.null, (.ref b95), (.int x0), (.ref b53), (.int ef), (.int v49)]) (rest := [(.ref b94)]) (a := b94) X95 hx hZ hown e95 (rm1 l Z a0 hw b94 b95 x0 b53 ef v49 h95 n0 zn95 f98 g_b94 f99 f100 f101 f102 f103 f104 (own_b01 hv49)) rfl (hw _ (List.mem_of_getElem? (i := 6) rfl)) (hw _ (List.mem_of_getElem? (i := 7) rfl)) (hw _ (List.mem_of_getElem? (i := 4) rfl)) (hw _ (List.mem_of_getElem? (i := 8) rfl)) (by decide) (by decide) (W := 1) (by decide) (by decide) (by decide) (by rw [hml]; rfl) (lenOf pd_1 rfl) (Nat.le_refl _) rfl (hb hby at_169) (pc' := 172) rfl (fun T97 L97 v97 X97 hQ97 => ?_)
            obtain ⟨rfl, N97q, K97, F_header_97, F_text_97, F_from_97, F_ends_97, F_endsFrom_97, F_atListPrice_97⟩ := hQ97
            have zn97 : n0 ≤ T97.heap.size := Nat.le_trans zn95 K97.1
            have N97 := Fr.app N93 N97q
            have X97 : Stand p l e room_1 s m _ below meth c T97 _ 3 13 := X97
            show Go p e below s room_1.cells room_1.slots (QL (some (.int 1)) n0) T97 (mkF m 172 #[.val (.int x0), .val (.int x1), .val (.int x2), .val (.int x3), .val (.int x4), .val (.int x5), .val (.int ef), .val (.int ps), .val (.int v47), .val (.int v49), .val (.int ee), .val (.int v51), .val (.ref b53), .val (.int idx), .unset, .unset, .unset] [(.ref b94)])
            refine w_astore (Ls' := #[.val (.int x0), .val (.int x1), .val (.int x2), .val (.int x3), .val (.int x4), .val (.int x5), .val (.int ef), .val (.int ps), .val (.int v47), .val (.int v49), .val (.int ee), .val (.int v51), .val (.ref b53), .val (.int idx), .val (.ref b94), .unset, .unset]) X97 hx (hb hby at_172) (pc' := 174) rfl rfl rfl ?_
            refine w_aload X97 hx (hb hby at_174) (pc' := 176) rfl rfl rfl ?_
            refine w_iload X97 hx (hb hby at_176) (pc' := 178) rfl rfl ?_
            have f106 := f96.ext E95
            have f107 := f106.keep K97 (ninS ne_b53_b94 nin0)
            have f108 := f98.keep K97
            refine w_callV (argsL := [(.int ps)]) (rest := []) (a := b94) X97 hx hZ hown rfl f108 (rm3 l Z a0 hw b94 ps T97.heap n0 x0 ef (([x4, x4, x4, x4, x4, x4, x4].set ((idx + (1 : Int32))).toNatClampNeg x2).set ((idx - (1 : Int32))).toNatClampNeg x3) F_from_97 F_ends_97 F_endsFrom_97 f107 f108 (own_hb hef hps (by simp only [List.length_set]; rfl))) (hw _ (List.mem_of_getElem? (i := 24) rfl)) (hw _ (List.mem_of_getElem? (i := 25) rfl)) (hw _ (List.mem_of_getElem? (i := 27) rfl)) (hw _ (List.mem_of_getElem? (i := 26) rfl)) (hw _ (List.mem_of_getElem? (i := 4) rfl)) (hw _ (List.mem_of_getElem? (i := 28) rfl)) (by decide) (by decide) (W := 0) (by decide) (by decide) (by decide) (by rw [hml]; rfl) (lenOf pd_0 rfl) (Nat.le_refl _) rfl (hb hby at_178) (pc' := 181) rfl (fun T105 L105 v105 X105 hQ105 => ?_)
            obtain ⟨rfl, N105q, e105⟩ := hQ105
            have N105 := Fr.app N97 N105q
            have X105 : Stand p l e room_1 s m _ below meth c T105 _ 3 13 := X105
            show Go p e below s room_1.cells room_1.slots (QL (some (.int 1)) n0) T105 (mkF m 181 #[.val (.int x0), .val (.int x1), .val (.int x2), .val (.int x3), .val (.int x4), .val (.int x5), .val (.int ef), .val (.int ps), .val (.int v47), .val (.int v49), .val (.int ee), .val (.int v51), .val (.ref b53), .val (.int idx), .val (.ref b94), .unset, .unset] [(.int (K3_0 x0 ef (([x4, x4, x4, x4, x4, x4, x4].set ((idx + (1 : Int32))).toNatClampNeg x2).set ((idx - (1 : Int32))).toNatClampNeg x3) ps))])
            refine w_istore (Ls' := #[.val (.int x0), .val (.int x1), .val (.int x2), .val (.int x3), .val (.int x4), .val (.int x5), .val (.int ef), .val (.int ps), .val (.int v47), .val (.int v49), .val (.int ee), .val (.int v51), .val (.ref b53), .val (.int idx), .val (.ref b94), .val (.int (K3_0 x0 ef (([x4, x4, x4, x4, x4, x4, x4].set ((idx + (1 : Int32))).toNatClampNeg x2).set ((idx - (1 : Int32))).toNatClampNeg x3) ps)), .unset]) X105 hx (hb hby at_181) (pc' := 183) rfl rfl ?_
            obtain ⟨got, hgot⟩ : ∃ z : Int32, z = (K3_0 x0 ef (([x4, x4, x4, x4, x4, x4, x4].set ((idx + (1 : Int32))).toNatClampNeg x2).set ((idx - (1 : Int32))).toNatClampNeg x3) ps) := ⟨_, rfl⟩
            rw [← hgot]
            refine w_iload X105 hx (hb hby at_183) (pc' := 185) rfl rfl ?_
            refine w_if_ne X105 hx (hb hby at_185) (pf := 188) (pt := 194) rfl (by decide) (by decide) (fun hc185 => ?_) (fun hc185 => ?_)
            · refine w_iload X105 hx (hb hby at_194) (pc' := 196) rfl rfl ?_
              refine w_iconst (v := 1) X105 hx (hb hby at_196) (pc' := 197) rfl rfl ?_
              refine w_iadd X105 hx (hb hby at_197) (pc' := 198) rfl ?_
              refine w_istore (Ls' := #[.val (.int x0), .val (.int x1), .val (.int x2), .val (.int x3), .val (.int x4), .val (.int x5), .val (.int ef), .val (.int ps), .val (.int v47), .val (.int v49), .val (.int ee), .val (.int v51), .val (.ref b53), .val (.int idx), .val (.ref b94), .val (.int got), .val (.int (ee + (1 : Int32)))]) X105 hx (hb hby at_198) (pc' := 200) rfl rfl ?_
              refine w_iload X105 hx (hb hby at_200) (pc' := 202) rfl rfl ?_
              refine w_iload X105 hx (hb hby at_202) (pc' := 204) rfl rfl ?_
              have hf204 : got = (ee + (1 : Int32)) := by first | exact absurd (own_neg hef hps hidx hc144) hc185 | exact own_law hef hps hidx (by rw [hee]; exact (own_m x1 2147483647 (k := 31) (by decide) (by decide)).1) hv51 hc185 (own_getset (by simp only [List.length_set]; exact (own_b3 hef hps hidx hc144).2)) hgot
              refine w_icmp_ne X105 hx (hb hby at_204) (pf := 207) (pt := 211) rfl (by decide) (by decide) (fun hc => absurd hf204 hc) (fun hc204 => ?_)
              refine w_iconst (v := 1) X105 hx (hb hby at_207) (pc' := 208) rfl rfl ?_
              refine w_goto X105 hx (hb hby at_208) (pc' := 212) (by decide) (by decide) ?_
              exact w_retZ X105 hx hret hlk (hb hby at_212) (by decide) (by decide) ⟨rfl, N105⟩
            · refine w_iloadN X105 hx (hb hby at_188) (pc' := 189) rfl rfl ?_
              refine w_istore (Ls' := #[.val (.int x0), .val (.int x1), .val (.int x2), .val (.int x3), .val (.int x4), .val (.int x5), .val (.int ef), .val (.int ps), .val (.int v47), .val (.int v49), .val (.int ee), .val (.int v51), .val (.ref b53), .val (.int idx), .val (.ref b94), .val (.int got), .val (.int x0)]) X105 hx (hb hby at_189) (pc' := 191) rfl rfl ?_
              refine w_goto X105 hx (hb hby at_191) (pc' := 200) (by decide) (by decide) ?_
              refine w_iload X105 hx (hb hby at_200) (pc' := 202) rfl rfl ?_
              refine w_iload X105 hx (hb hby at_202) (pc' := 204) rfl rfl ?_
              have hf204 : got = x0 := by rw [hgot, K3_0, if_pos hc185]
              refine w_icmp_ne X105 hx (hb hby at_204) (pf := 207) (pt := 211) rfl (by decide) (by decide) (fun hc => absurd hf204 hc) (fun hc204 => ?_)
              refine w_iconst (v := 1) X105 hx (hb hby at_207) (pc' := 208) rfl rfl ?_
              refine w_goto X105 hx (hb hby at_208) (pc' := 212) (by decide) (by decide) ?_
              exact w_retZ X105 hx hret hlk (hb hby at_212) (by decide) (by decide) ⟨rfl, N105⟩
          · refine w_aload X93 hx (hb hby at_147) (pc' := 149) rfl rfl rfl ?_
            refine w_iload X93 hx (hb hby at_149) (pc' := 151) rfl rfl ?_
            refine w_iload X93 hx (hb hby at_151) (pc' := 153) rfl rfl ?_
            refine w_iastore X93 hx hZ e93 V93 (own_b3 hef hps hidx hc144).1 (by first | exact (own_b3 hef hps hidx hc144).2 | (simp only [List.length_set]; exact (own_b3 hef hps hidx hc144).2)) (hb hby at_153) (pc' := 154) rfl (fun T109 h109 X109 e109 W109 V109 => ?_)
            have N109 := Fr.snoc X109 N93 g_b53
            have zn109 : n0 ≤ h109.size := by rw [W109.size]; exact zn93
            refine w_newO X109 hx hZ hown e109 (hw _ (List.mem_of_getElem? (i := 2) rfl)) (hw _ (List.mem_of_getElem? (i := 3) rfl)) (hw _ (List.mem_of_getElem? (i := 4) rfl)) (hb hby at_154) (by decide) (by decide) (pc' := 157) rfl (fun T110 h110 b110 X110 e110 E110 q110 A110 D110 => ?_)
            have g_b110 : n0 ≤ b110 := by rw [q110]; exact zn109
            have ne_b53_b110 : b53 ≠ b110 := by rw [q110]; exact Nat.ne_of_lt V109.lt
            have F_header_b110 : Fld Z h110 b110 "com/example/tallyshare/tallyshare/InputRow" "header" "Ljava/util/Map;" .null := D110 (Or.inr (hw _ (List.mem_of_getElem? (i := 13) rfl))) (ty := (.object "java/util/Map")) (by decide)
            have F_text_b110 : Fld Z h110 b110 "com/example/tallyshare/tallyshare/InputRow" "text" "[B" .null := D110 (Or.inr (hw _ (List.mem_of_getElem? (i := 15) rfl))) (ty := (.array .byte)) (by decide)
            have F_from_b110 : Fld Z h110 b110 "com/example/tallyshare/tallyshare/InputRow" "from" "I" (.int (0 : Int32)) := D110 (Or.inr (hw _ (List.mem_of_getElem? (i := 17) rfl))) (ty := .int) (by decide)
            have F_ends_b110 : Fld Z h110 b110 "com/example/tallyshare/tallyshare/InputRow" "ends" "[I" .null := D110 (Or.inr (hw _ (List.mem_of_getElem? (i := 19) rfl))) (ty := (.array .int)) (by decide)
            have F_endsFrom_b110 : Fld Z h110 b110 "com/example/tallyshare/tallyshare/InputRow" "endsFrom" "I" (.int (0 : Int32)) := D110 (Or.inr (hw _ (List.mem_of_getElem? (i := 21) rfl))) (ty := .int) (by decide)
            have F_atListPrice_b110 : Fld Z h110 b110 "com/example/tallyshare/tallyshare/InputRow" "atListPrice" "Z" (.int (0 : Int32)) := D110 (Or.inr (hw _ (List.mem_of_getElem? (i := 23) rfl))) (ty := .boolean) (by decide)
            have zn110 : n0 ≤ h110.size := Nat.le_trans zn109 E110.1
            refine w_dup X110 hx (hb hby at_157) (pc' := 158) rfl rfl ?_
            refine w_aconstNull X110 hx (hb hby at_158) (pc' := 159) rfl ?_
            refine w_iconst (v := 0) X110 hx (hb hby at_159) (pc' := 160) rfl rfl ?_
            refine w_newB X110 hx hZ (cap := 0) e110 (hw _ (List.mem_of_getElem? (i := 5) rfl)) (by decide) (by decide) (by decide) (by decide) (by decide) (hb hby at_160) (pc' := 162) rfl (fun T111 h111 b111 X111 e111 E111 q111 V111 => ?_)
            have g_b111 : n0 ≤ b111 := by rw [q111]; exact zn110
            have f112 := V109.ext E110
            have ne_b53_b111 : b53 ≠ b111 := by rw [q111]; exact Nat.ne_of_lt f112.lt
            have ne_b110_b111 : b110 ≠ b111 := by rw [q111]; exact Nat.ne_of_lt A110.lt
            have V111 : AI Z h111 b111 .byte [] := V111
            have zn111 : n0 ≤ h111.size := Nat.le_trans zn110 E111.1
            refine w_iloadN X111 hx (hb hby at_162) (pc' := 163) rfl rfl ?_
            refine w_aload X111 hx (hb hby at_163) (pc' := 165) rfl rfl rfl ?_
            refine w_iload X111 hx (hb hby at_165) (pc' := 167) rfl rfl ?_
            refine w_iload X111 hx (hb hby at_167) (pc' := 169) rfl rfl ?_
            have f114 := A110.ext E111
            have f115 := F_header_b110.ext E111
            have f116 := F_text_b110.ext E111
            have f117 := F_from_b110.ext E111
            have f118 := F_ends_b110.ext E111
            have f119 := F_endsFrom_b110.ext E111
            have f120 := F_atListPrice_b110.ext E111
            refine w_callI (argsL := [.null, (.ref b111), (.int x0), (.ref b53), (.int ef), (.int v49)]) (rest := [(.ref b110)]) (a := b110) X111 hx hZ hown e111 (rm1 l Z a0 hw b110 b111 x0 b53 ef v49 h111 n0 zn111 f114 g_b110 f115 f116 f117 f118 f119 f120 (own_b01 hv49)) rfl (hw _ (List.mem_of_getElem? (i := 6) rfl)) (hw _ (List.mem_of_getElem? (i := 7) rfl)) (hw _ (List.mem_of_getElem? (i := 4) rfl)) (hw _ (List.mem_of_getElem? (i := 8) rfl)) (by decide) (by decide) (W := 1) (by decide) (by decide) (by decide) (by rw [hml]; rfl) (lenOf pd_1 rfl) (Nat.le_refl _) rfl (hb hby at_169) (pc' := 172) rfl (fun T113 L113 v113 X113 hQ113 => ?_)
            obtain ⟨rfl, N113q, K113, F_header_113, F_text_113, F_from_113, F_ends_113, F_endsFrom_113, F_atListPrice_113⟩ := hQ113
            have zn113 : n0 ≤ T113.heap.size := Nat.le_trans zn111 K113.1
            have N113 := Fr.app N109 N113q
            have X113 : Stand p l e room_1 s m _ below meth c T113 _ 3 13 := X113
            show Go p e below s room_1.cells room_1.slots (QL (some (.int 1)) n0) T113 (mkF m 172 #[.val (.int x0), .val (.int x1), .val (.int x2), .val (.int x3), .val (.int x4), .val (.int x5), .val (.int ef), .val (.int ps), .val (.int v47), .val (.int v49), .val (.int ee), .val (.int v51), .val (.ref b53), .val (.int idx), .unset, .unset, .unset] [(.ref b110)])
            refine w_astore (Ls' := #[.val (.int x0), .val (.int x1), .val (.int x2), .val (.int x3), .val (.int x4), .val (.int x5), .val (.int ef), .val (.int ps), .val (.int v47), .val (.int v49), .val (.int ee), .val (.int v51), .val (.ref b53), .val (.int idx), .val (.ref b110), .unset, .unset]) X113 hx (hb hby at_172) (pc' := 174) rfl rfl rfl ?_
            refine w_aload X113 hx (hb hby at_174) (pc' := 176) rfl rfl rfl ?_
            refine w_iload X113 hx (hb hby at_176) (pc' := 178) rfl rfl ?_
            have f122 := f112.ext E111
            have f123 := f122.keep K113 (ninS ne_b53_b110 nin0)
            have f124 := f114.keep K113
            refine w_callV (argsL := [(.int ps)]) (rest := []) (a := b110) X113 hx hZ hown rfl f124 (rm3 l Z a0 hw b110 ps T113.heap n0 x0 ef ((([x4, x4, x4, x4, x4, x4, x4].set ((idx + (1 : Int32))).toNatClampNeg x2).set ((idx - (1 : Int32))).toNatClampNeg x3).set (idx).toNatClampNeg v51) F_from_113 F_ends_113 F_endsFrom_113 f123 f124 (own_hb hef hps (by simp only [List.length_set]; rfl))) (hw _ (List.mem_of_getElem? (i := 24) rfl)) (hw _ (List.mem_of_getElem? (i := 25) rfl)) (hw _ (List.mem_of_getElem? (i := 27) rfl)) (hw _ (List.mem_of_getElem? (i := 26) rfl)) (hw _ (List.mem_of_getElem? (i := 4) rfl)) (hw _ (List.mem_of_getElem? (i := 28) rfl)) (by decide) (by decide) (W := 0) (by decide) (by decide) (by decide) (by rw [hml]; rfl) (lenOf pd_0 rfl) (Nat.le_refl _) rfl (hb hby at_178) (pc' := 181) rfl (fun T121 L121 v121 X121 hQ121 => ?_)
            obtain ⟨rfl, N121q, e121⟩ := hQ121
            have N121 := Fr.app N113 N121q
            have X121 : Stand p l e room_1 s m _ below meth c T121 _ 3 13 := X121
            show Go p e below s room_1.cells room_1.slots (QL (some (.int 1)) n0) T121 (mkF m 181 #[.val (.int x0), .val (.int x1), .val (.int x2), .val (.int x3), .val (.int x4), .val (.int x5), .val (.int ef), .val (.int ps), .val (.int v47), .val (.int v49), .val (.int ee), .val (.int v51), .val (.ref b53), .val (.int idx), .val (.ref b110), .unset, .unset] [(.int (K3_0 x0 ef ((([x4, x4, x4, x4, x4, x4, x4].set ((idx + (1 : Int32))).toNatClampNeg x2).set ((idx - (1 : Int32))).toNatClampNeg x3).set (idx).toNatClampNeg v51) ps))])
            refine w_istore (Ls' := #[.val (.int x0), .val (.int x1), .val (.int x2), .val (.int x3), .val (.int x4), .val (.int x5), .val (.int ef), .val (.int ps), .val (.int v47), .val (.int v49), .val (.int ee), .val (.int v51), .val (.ref b53), .val (.int idx), .val (.ref b110), .val (.int (K3_0 x0 ef ((([x4, x4, x4, x4, x4, x4, x4].set ((idx + (1 : Int32))).toNatClampNeg x2).set ((idx - (1 : Int32))).toNatClampNeg x3).set (idx).toNatClampNeg v51) ps)), .unset]) X121 hx (hb hby at_181) (pc' := 183) rfl rfl ?_
            obtain ⟨got, hgot⟩ : ∃ z : Int32, z = (K3_0 x0 ef ((([x4, x4, x4, x4, x4, x4, x4].set ((idx + (1 : Int32))).toNatClampNeg x2).set ((idx - (1 : Int32))).toNatClampNeg x3).set (idx).toNatClampNeg v51) ps) := ⟨_, rfl⟩
            rw [← hgot]
            refine w_iload X121 hx (hb hby at_183) (pc' := 185) rfl rfl ?_
            refine w_if_ne X121 hx (hb hby at_185) (pf := 188) (pt := 194) rfl (by decide) (by decide) (fun hc185 => ?_) (fun hc185 => ?_)
            · refine w_iload X121 hx (hb hby at_194) (pc' := 196) rfl rfl ?_
              refine w_iconst (v := 1) X121 hx (hb hby at_196) (pc' := 197) rfl rfl ?_
              refine w_iadd X121 hx (hb hby at_197) (pc' := 198) rfl ?_
              refine w_istore (Ls' := #[.val (.int x0), .val (.int x1), .val (.int x2), .val (.int x3), .val (.int x4), .val (.int x5), .val (.int ef), .val (.int ps), .val (.int v47), .val (.int v49), .val (.int ee), .val (.int v51), .val (.ref b53), .val (.int idx), .val (.ref b110), .val (.int got), .val (.int (ee + (1 : Int32)))]) X121 hx (hb hby at_198) (pc' := 200) rfl rfl ?_
              refine w_iload X121 hx (hb hby at_200) (pc' := 202) rfl rfl ?_
              refine w_iload X121 hx (hb hby at_202) (pc' := 204) rfl rfl ?_
              have hf204 : got = (ee + (1 : Int32)) := by first | exact absurd (own_neg hef hps hidx hc144) hc185 | exact own_law hef hps hidx (by rw [hee]; exact (own_m x1 2147483647 (k := 31) (by decide) (by decide)).1) hv51 hc185 (own_getset (by simp only [List.length_set]; exact (own_b3 hef hps hidx hc144).2)) hgot
              refine w_icmp_ne X121 hx (hb hby at_204) (pf := 207) (pt := 211) rfl (by decide) (by decide) (fun hc => absurd hf204 hc) (fun hc204 => ?_)
              refine w_iconst (v := 1) X121 hx (hb hby at_207) (pc' := 208) rfl rfl ?_
              refine w_goto X121 hx (hb hby at_208) (pc' := 212) (by decide) (by decide) ?_
              exact w_retZ X121 hx hret hlk (hb hby at_212) (by decide) (by decide) ⟨rfl, N121⟩
            · refine w_iloadN X121 hx (hb hby at_188) (pc' := 189) rfl rfl ?_
              refine w_istore (Ls' := #[.val (.int x0), .val (.int x1), .val (.int x2), .val (.int x3), .val (.int x4), .val (.int x5), .val (.int ef), .val (.int ps), .val (.int v47), .val (.int v49), .val (.int ee), .val (.int v51), .val (.ref b53), .val (.int idx), .val (.ref b110), .val (.int got), .val (.int x0)]) X121 hx (hb hby at_189) (pc' := 191) rfl rfl ?_
              refine w_goto X121 hx (hb hby at_191) (pc' := 200) (by decide) (by decide) ?_
              refine w_iload X121 hx (hb hby at_200) (pc' := 202) rfl rfl ?_
              refine w_iload X121 hx (hb hby at_202) (pc' := 204) rfl rfl ?_
              have hf204 : got = x0 := by rw [hgot, K3_0, if_pos hc185]
              refine w_icmp_ne X121 hx (hb hby at_204) (pf := 207) (pt := 211) rfl (by decide) (by decide) (fun hc => absurd hf204 hc) (fun hc204 => ?_)
              refine w_iconst (v := 1) X121 hx (hb hby at_207) (pc' := 208) rfl rfl ?_
              refine w_goto X121 hx (hb hby at_208) (pc' := 212) (by decide) (by decide) ?_
              exact w_retZ X121 hx hret hlk (hb hby at_212) (by decide) (by decide) ⟨rfl, N121⟩
      refine w_if_eq X hx (hb hby at_54) (pf := 57) (pt := 64) rfl (by decide) (by decide) (fun hc54 => ?_) (fun hc54 => ?_)
      · refine w_iload X hx (hb hby at_64) (pc' := 66) rfl rfl ?_
        exact J66_52 (ee) (by rw [if_pos (show v47 = (0 : Int32) from (by assumption))])
      · refine w_iload X hx (hb hby at_57) (pc' := 59) rfl rfl ?_
        refine w_iconst (v := -1) X hx (hb hby at_59) (pc' := 60) rfl rfl ?_
        refine w_ixor X hx (hb hby at_60) (pc' := 61) rfl ?_
        refine w_goto X hx (hb hby at_61) (pc' := 66) (by decide) (by decide) ?_
        exact J66_52 ((ee ^^^ (-1 : Int32))) (by rw [if_neg (show ¬ (v47 = (0 : Int32)) from (by assumption))])
    refine w_if_eq X hx (hb hby at_36) (pf := 39) (pt := 43) rfl (by decide) (by decide) (fun hc36 => ?_) (fun hc36 => ?_)
    · refine w_iconst (v := 0) X hx (hb hby at_43) (pc' := 44) rfl rfl ?_
      exact J44_50 ((0 : Int32)) (by rw [if_pos (show ((jushr x5 (5 : Int32)) &&& (1 : Int32)) = (0 : Int32) from (by assumption))])
    · refine w_iconst (v := 1) X hx (hb hby at_39) (pc' := 40) rfl rfl ?_
      refine w_goto X hx (hb hby at_40) (pc' := 44) (by decide) (by decide) ?_
      exact J44_50 ((1 : Int32)) (by rw [if_neg (show ¬ (((jushr x5 (5 : Int32)) &&& (1 : Int32)) = (0 : Int32)) from (by assumption))])
  refine w_if_eq X hx (hb hby at_20) (pf := 23) (pt := 27) rfl (by decide) (by decide) (fun hc20 => ?_) (fun hc20 => ?_)
  · refine w_iconst (v := 0) X hx (hb hby at_27) (pc' := 28) rfl rfl ?_
    exact J28_48 ((0 : Int32)) (by rw [if_pos (show ((jushr x5 (4 : Int32)) &&& (1 : Int32)) = (0 : Int32) from (by assumption))])
  · refine w_iconst (v := 1) X hx (hb hby at_23) (pc' := 24) rfl rfl ?_
    refine w_goto X hx (hb hby at_24) (pc' := 28) (by decide) (by decide) ?_
    exact J28_48 ((1 : Int32)) (by rw [if_neg (show ¬ (((jushr x5 (4 : Int32)) &&& (1 : Int32)) = (0 : Int32)) from (by assumption))])
set_option maxRecDepth 65536 in
set_option maxHeartbeats 40000000 in
theorem comes_1 {Post : Tables → Env → Array Value → State → Outcome → State → Prop} (hpost : ∀ tb e args s v u, (limb_1_1.after args s (.returned v) u = true ∧ limb_1_2.after args s (.returned v) u = true ∧ True) → FrameEnd s (.returned v) u (Jvm.fieldLocs frame_1_writes args s ++ Jvm.arrayLocs frame_1_arrays args s ++ Jvm.staticLocs frame_1_statics s) 16 128 → Post tb e args s (.returned v) u) :
    ArmFor flags0 classFile x code maxLocals ret World_1 tables_1 room_1 Calls_1 rest_1 Pre_1 Post := by
  intro l hfl _ _ p e ha hc hk s m args below hf hA hF happ hP
  obtain ⟨hcalls, hrest, hpre⟩ := hP
  obtain ⟨-, -, -, hnamed, -, -, -, hat⟩ := (Spec.applies_iff hf).mp happ
  obtain ⟨hg, hn⟩ := and_e (Cond.before_iff.mp (show (Jvm.Cond.and given_1 narrow_1).before args s = true from hpre))
  obtain ⟨g1, g2⟩ := and_e hg
  obtain ⟨g3, g4⟩ := and_e g2
  obtain ⟨g5, g6⟩ := and_e g4
  obtain ⟨g7, g8⟩ := and_e g6
  obtain ⟨g9, g10⟩ := and_e g8
  obtain ⟨g11, g12⟩ := and_e g10
  obtain ⟨w0, w1, w2, w3, w4, w5, rfl⟩ : ∃ w0 w1 w2 w3 w4 w5 : Value, args = #[w0, w1, w2, w3, w4, w5] := by
    have hs : args.size = 6 := by simpa [Cond.value, given_1] using g1
    obtain ⟨L⟩ := args
    match L, hs with
    | [w0, w1, w2, w3, w4, w5], _ => exact ⟨w0, w1, w2, w3, w4, w5, rfl⟩
  have hw := fun d (hd : d ∈ tables_1) => atoms_spec (ws := Jvm.Cond.code x code maxLocals ret :: tables_1) hat d (List.mem_cons_of_mem _ hd)
  obtain ⟨i0, ei0⟩ := is_v g3
  obtain rfl : w0 = (.int i0) := Option.some.inj ei0
  obtain ⟨i1, ei1⟩ := is_v g5
  obtain rfl : w1 = (.int i1) := Option.some.inj ei1
  obtain ⟨i2, ei2⟩ := is_v g7
  obtain rfl : w2 = (.int i2) := Option.some.inj ei2
  obtain ⟨i3, ei3⟩ := is_v g9
  obtain rfl : w3 = (.int i3) := Option.some.inj ei3
  obtain ⟨i4, ei4⟩ := is_v g11
  obtain rfl : w4 = (.int i4) := Option.some.inj ei4
  obtain ⟨i5, ei5⟩ := is_v g12
  obtain rfl : w5 = (.int i5) := Option.some.inj ei5
  have C := rm0 l s _ hw i0 i1 i2 i3 i4 i5 s.heap s.heap.size (Nat.le_refl _)
  obtain ⟨n, o, h1, h2, h3, v, L, rfl, ⟨rfl, N⟩, hq⟩ := C tables_1 p e ha hc hk s m _ below hf ((Spec.applies_iff_loose hf).mp happ).1 ⟨rfl, State.Warmed39.refl s, rfl⟩ trivial
  refine ⟨n, _, h1, h2, h3, hpost _ _ _ _ _ _ ⟨Cond.after_iff.mpr rfl, Cond.after_iff.mpr (eq_i res_at (Term.int_eval (1)) rfl), trivial⟩ ⟨hq.1, hq.2.1, (hq.2.2.sift fun y hy => Or.inr (N y hy)).mono (by decide) (by decide)⟩⟩
theorem main_1_1 : Claimed_1_1 := comes_1 fun _ _ _ _ _ _ h hF => ⟨h.1, hF⟩
theorem main_1_2 : Claimed_1_2 := comes_1 fun _ _ _ _ _ _ h hF => ⟨h.2.1, hF⟩
end Jvm.Pilot.@@N@@
namespace Jvm.Pilot.@@N@@
open Jvm Jvm.ClassFile Sem Op Lib Jvm.Free Jvm.Stand Jvm.Pilot.@@N@@.Jvm.D
/-! MADE BY PROGRAM (witnessworld.py) out of the Statement's table words and the real class files: 9 classes; the members and pool entries that the words name. The judged class is class 1, her method 1. -/
namespace start1
open Jvm.ClassFile
def u (s : String) : CpInfo := .utf8 (stringToUtf16 s)
/-- a pool by its gaps: so many unusable entries, then the entry; so many at the end -/
def gap : Nat → List CpInfo → List CpInfo
  | 0, r => r
  | n + 1, r => .unusable :: gap n r
def poolList (es : List (Nat × CpInfo)) (last : Nat) : List CpInfo := es.foldr (fun e r => gap e.1 (e.2 :: r)) (gap last [])
def pool (es : List (Nat × CpInfo)) (last : Nat) : Array CpInfo := ⟨poolList es last⟩
def fileOf (pool : Array CpInfo) (this : Nat) (attrs : Array Attribute := #[]) (ms : Array MethodInfo := #[]) (fl : Nat := 33) (sup : Nat := 0) (ifs : Array Nat := #[]) (fds : Array FieldInfo := #[]) : ClassFile where
  minorVersion := 0
  majorVersion := 65
  constantPool := pool
  accessFlags := fl
  thisClass := this
  superClass := sup
  interfaces := ifs
  fields := fds
  methods := ms
  attributes := attrs
def plain (name : String) (sup : Option ClassId) : Class where
  name := name
  kind := .ordinary
  loader := none
  accessFlags := 33
  super := sup
  interfaces := #[]
  cf := none
  fields := #[]
  methods := #[]
  instanceTypes := #[]
  staticTypes := #[]
  resolved := #[]
  callSites := []
  init := .initialized
  statics := none
  mirror := none

def pool0 : Array CpInfo := pool [(5, u "<init>"), (0, u "()V"), (1, .class_ 10), (1, u "java/lang/Object")] 113

def k0c0 : Code := { maxStack := 0, maxLocals := 1, code := object_method_1_code, exceptionTable := #[], attributes := #[] }
def k0m0 : Method := { name := "<init>", desc := "()V", sig := { parameters := [], returnType := none }, accessFlags := 1, code := some k0c0 }
/-- java/lang/Object -/
def k0 : Class := { plain "java/lang/Object" none with
  accessFlags := 33
  interfaces := #[]
  cf := some (fileOf pool0 8 #[] #[{ accessFlags := 1, nameIndex := 5, descriptorIndex := 6, attributes := #[] }] 33 0 #[] #[])
  fields := #[]
  methods := #[k0m0]
  instanceTypes := #[]
  staticTypes := #[]
  resolved := Array.replicate 124 none
  statics := none }

def pool1 : Array CpInfo := pool [(2, .class_ 4), (1, u "java/lang/Object"), (0, u "<init>"), (0, u "()V"), (0, .integer 2147483647), (0, .class_ 9), (0, u "com/example/tallyshare/tallyshare/InputRow"), (0, .methodref 8 11), (0, .nameAndType 5 12), (0, u "(Ljava/util/Map;[BI[IIZ)V"), (0, .methodref 8 14), (0, .nameAndType 15 16), (0, u "start"), (0, u "(I)I"), (0, .class_ 18), (0, u "com/example/tallyshare/tallyshare/InputRowStartPinLaw"), (2, u "law"), (0, u "(IIIIII)Z")] 5

def k1m0 : Method := { name := "<init>", desc := "()V", sig := { parameters := [], returnType := none }, accessFlags := 1, code := none }
def k1c1 : Code := { maxStack := 8, maxLocals := 17, code := code, exceptionTable := #[], attributes := #[] }
def k1m1 : Method := { name := "law", desc := "(IIIIII)Z", sig := { parameters := [.int, .int, .int, .int, .int, .int], returnType := some .boolean }, accessFlags := 9, code := some k1c1 }
/-- com/example/tallyshare/tallyshare/InputRowStartPinLaw -/
def k1 : Class := { plain "com/example/tallyshare/tallyshare/InputRowStartPinLaw" (some 0) with
  accessFlags := 49
  interfaces := #[]
  cf := some (fileOf pool1 17 #[] #[{ accessFlags := 1, nameIndex := 5, descriptorIndex := 6, attributes := #[] }, { accessFlags := 9, nameIndex := 21, descriptorIndex := 22, attributes := #[] }] 49 2 #[] #[])
  fields := #[]
  methods := #[k1m0, k1m1]
  instanceTypes := #[]
  staticTypes := #[]
  resolved := Array.replicate 28 none
  statics := none }

def pool2 : Array CpInfo := pool [(2, .class_ 4), (1, u "com/example/tallyshare/tallyshare/InputRow"), (0, u "<init>"), (0, u "(Ljava/util/Map;[BI[IIZ)V"), (0, .methodref 8 9), (0, .class_ 10), (0, .nameAndType 5 11), (0, u "java/lang/Object"), (0, u "()V"), (0, .fieldref 2 13), (0, .nameAndType 14 15), (0, u "header"), (0, u "Ljava/util/Map;"), (0, .fieldref 2 17), (0, .nameAndType 18 19), (0, u "text"), (0, u "[B"), (0, .fieldref 2 21), (0, .nameAndType 22 23), (0, u "from"), (0, u "I"), (0, .fieldref 2 25), (0, .nameAndType 26 27), (0, u "ends"), (0, u "[I"), (0, .fieldref 2 29), (0, .nameAndType 30 23), (0, u "endsFrom"), (0, .fieldref 2 32), (0, .nameAndType 33 34), (0, u "atListPrice"), (0, u "Z"), (22, u "start"), (0, u "(I)I"), (0, .methodref 2 60), (0, .nameAndType 61 58), (0, u "end")] 32

def k2c0 : Code := { maxStack := 2, maxLocals := 7, code := prog_5_method_2_code, exceptionTable := #[], attributes := #[] }
def k2m0 : Method := { name := "<init>", desc := "(Ljava/util/Map;[BI[IIZ)V", sig := { parameters := [(.object "java/util/Map"), (.array .byte), .int, (.array .int), .int, .boolean], returnType := none }, accessFlags := 0, code := some k2c0 }
def k2c1 : Code := { maxStack := 3, maxLocals := 2, code := prog_5_method_9_code, exceptionTable := #[], attributes := #[] }
def k2m1 : Method := { name := "start", desc := "(I)I", sig := { parameters := [.int], returnType := some .int }, accessFlags := 0, code := some k2c1 }
def k2c2 : Code := { maxStack := 3, maxLocals := 3, code := prog_5_method_10_code, exceptionTable := #[], attributes := #[] }
def k2m2 : Method := { name := "end", desc := "(I)I", sig := { parameters := [.int], returnType := some .int }, accessFlags := 0, code := some k2c2 }
/-- com/example/tallyshare/tallyshare/InputRow -/
def k2 : Class := { plain "com/example/tallyshare/tallyshare/InputRow" (some 0) with
  accessFlags := 49
  interfaces := #[]
  cf := some (fileOf pool2 2 #[] #[{ accessFlags := 0, nameIndex := 5, descriptorIndex := 6, attributes := #[] }, { accessFlags := 0, nameIndex := 57, descriptorIndex := 58, attributes := #[] }, { accessFlags := 0, nameIndex := 61, descriptorIndex := 58, attributes := #[] }] 49 8 #[] #[{ accessFlags := 18, nameIndex := 14, descriptorIndex := 15, attributes := #[] }, { accessFlags := 18, nameIndex := 18, descriptorIndex := 19, attributes := #[] }, { accessFlags := 18, nameIndex := 22, descriptorIndex := 23, attributes := #[] }, { accessFlags := 18, nameIndex := 26, descriptorIndex := 27, attributes := #[] }, { accessFlags := 18, nameIndex := 30, descriptorIndex := 23, attributes := #[] }, { accessFlags := 18, nameIndex := 33, descriptorIndex := 34, attributes := #[] }])
  fields := #[{ name := "header", type := (.object "java/util/Map"), accessFlags := 18, slot := 0, constantValue := 0 }, { name := "text", type := (.array .byte), accessFlags := 18, slot := 1, constantValue := 0 }, { name := "from", type := .int, accessFlags := 18, slot := 2, constantValue := 0 }, { name := "ends", type := (.array .int), accessFlags := 18, slot := 3, constantValue := 0 }, { name := "endsFrom", type := .int, accessFlags := 18, slot := 4, constantValue := 0 }, { name := "atListPrice", type := .boolean, accessFlags := 18, slot := 5, constantValue := 0 }]
  methods := #[k2m0, k2m1, k2m2]
  instanceTypes := #[(.object "java/util/Map"), (.array .byte), .int, (.array .int), .int, .boolean]
  staticTypes := #[]
  resolved := Array.replicate 94 none
  statics := none }

def pool3 : Array CpInfo := pool [(1, u "java/lang/Cloneable"), (0, .class_ 1), (0, u "java/lang/Object"), (0, .class_ 3)] 3

/-- java/lang/Cloneable -/
def k3 : Class := { plain "java/lang/Cloneable" (some 0) with
  accessFlags := 1537
  interfaces := #[]
  cf := some (fileOf pool3 2 #[] #[] 1537 4 #[] #[])
  fields := #[]
  methods := #[]
  instanceTypes := #[]
  staticTypes := #[]
  resolved := Array.replicate 8 none
  statics := none }

def pool4 : Array CpInfo := pool [(1, u "java/io/Serializable"), (0, .class_ 1), (0, u "java/lang/Object"), (0, .class_ 3)] 3

/-- java/io/Serializable -/
def k4 : Class := { plain "java/io/Serializable" (some 0) with
  accessFlags := 1537
  interfaces := #[]
  cf := some (fileOf pool4 2 #[] #[] 1537 4 #[] #[])
  fields := #[]
  methods := #[]
  instanceTypes := #[]
  staticTypes := #[]
  resolved := Array.replicate 8 none
  statics := none }

/-- the primitive byte -/
def k5 : Class := { plain "byte" none with kind := .primitive 'B', accessFlags := 0x411 }
/-- [B -/
def k6 : Class := { plain "[B" (some 0) with kind := .array 5 .byte, interfaces := #[3, 4], accessFlags := 1041 }

/-- the primitive int -/
def k7 : Class := { plain "int" none with kind := .primitive 'I', accessFlags := 0x411 }
/-- [I -/
def k8 : Class := { plain "[I" (some 0) with kind := .array 7 .int, interfaces := #[3, 4], accessFlags := 1041 }

def heap : Heap := #[]
def classes : Array Class := #[k0, k1, k2, k3, k4, k5, k6, k7, k8]
def interned : List (Array UInt16 × Addr) := []
def slotsUsed : Nat := 0
def theMethod : MethodId := ⟨1, 1⟩
def args0 : Array Value := #[.int 3, .int 4, .int 5, .int 6, .int 7, .int 8]
def aboutOver (below : List Frame) : State where
  vm := { classes := classes, interned := interned.toArray }
  heap := heap
  slotsUsed := slotsUsed
  threads := #[{ frames := .invoking theMethod args0 :: below }]
def below0 : List Frame := [.native { method := ⟨0, 0⟩, args := #[] }]
def about1 : State := aboutOver below0
def p0 : Program := .bare "" "" ""
def e0 : Env := launch0.env 0 0 0
theorem w_frames : about1.frames = Frame.invoking theMethod args0 :: below0 := rfl
set_option maxRecDepth 65536 in
theorem w_args : argsFit about1.vm theMethod args0 = true := by decide +kernel
set_option maxRecDepth 65536 in
theorem w_heap : heapFits about1 = true := by decide +kernel
set_option maxRecDepth 65536 in
theorem w_runnable : about1.curStatus? = some .runnable := by decide +kernel
set_option maxRecDepth 65536 in
theorem w_alone : about1.alone = true := by decide +kernel
set_option maxRecDepth 65536 in
theorem w_named : about1.methodNamed? x = some theMethod := by decide +kernel
set_option maxRecDepth 65536 in
theorem w_hears : about1.hears theMethod below0 = true := by decide +kernel
set_option maxRecDepth 65536 in
theorem w_ripe : about1.ripe theMethod args0 below0 = true := by decide +kernel
theorem w_running : about1.status = .running := rfl
set_option maxRecDepth 65536 in
theorem w_room : about1.hasRoom e0.platform room_1 = true :=
  launch0.hasRoom_least _ room_1 (by decide +kernel) (by decide +kernel) (by decide +kernel) (by decide +kernel) (by decide +kernel) (by decide +kernel)
theorem allAtoms_all (ts : List Jvm.Cond) (a : Array Jvm.Value) (st : Jvm.State) : (allAtoms ts).before a st = ts.all (fun c => c.before a st) := by
  induction ts with
  | nil => rfl
  | cons c t ih =>
    show (Jvm.Cond.and c (allAtoms t)).before a st = _
    rw [Jvm.Cond.before_and, ih, List.all_cons]
def words1 : List Jvm.Cond := Jvm.Cond.code x code maxLocals ret :: tables_1
/-- a 'code' word, met by the world's own term for the bytes: nothing is compared byte by byte -/
theorem code_word {y : MethodName} {bytes : ByteArray} {mx : Nat} {rt : Option FieldType} {a : Array Value} {s : State} {m : MethodId} {meth : Method} {c : Code} (h1 : s.methodNamed? y = some m) (h2 : s.vm.method? m = some meth) (h3 : meth.code = some c) (h4 : c.code = bytes)
    (h5 : (c.maxLocals == mx && c.exceptionTable.isEmpty && decide (c.maxStack ≤ mostOperands) && decide (meth.sig.returnType = rt) && !meth.locks && decide (parseMethodDescriptor y.desc = some meth.sig)) = true) : (Jvm.Cond.code y bytes mx rt).before a s = true := by
  simp only [Bool.and_eq_true, beq_iff_eq, Bool.not_eq_true', decide_eq_true_eq] at h5
  obtain ⟨⟨⟨⟨⟨g1, g2⟩, g3⟩, g4⟩, g5⟩, g6⟩ := h5
  simp [Cond.before, Cond.holds, Cond.value, h1, h2, h3, h4, g1, g2, g3, g4, g5, g6]
def isCode : Jvm.Cond → Bool
  | .code _ _ _ _ => true
  | _ => false
theorem all_split {L : List Jvm.Cond} {P : Jvm.Cond → Bool} (h1 : L.all (fun c => isCode c || P c) = true) (h2 : ∀ c ∈ L.filter isCode, P c = true) : L.all P = true := by
  refine List.all_eq_true.mpr fun c hc => ?_
  have h := List.all_eq_true.mp h1 c hc
  rcases Bool.eq_false_or_eq_true (isCode c) with hi | hi
  · exact h2 c (List.mem_filter.mpr ⟨hc, hi⟩)
  · simpa [hi] using h
set_option maxRecDepth 65536 in
theorem w_c0 : (Jvm.Cond.code x code maxLocals ret).before args0 about1 = true := code_word (m := ⟨1, 1⟩) (meth := k1m1) (c := k1c1) (by decide +kernel) rfl rfl rfl (by decide +kernel)
set_option maxRecDepth 65536 in
theorem w_c1 : (Jvm.Cond.code ({ cls := "com/example/tallyshare/tallyshare/InputRow", name := "<init>", desc := "(Ljava/util/Map;[BI[IIZ)V" } : Jvm.MethodName) prog_5_method_2_code (7 : Nat) (Option.none : Option Jvm.ClassFile.FieldType)).before args0 about1 = true := code_word (m := ⟨2, 0⟩) (meth := k2m0) (c := k2c0) (by decide +kernel) rfl rfl rfl (by decide +kernel)
set_option maxRecDepth 65536 in
theorem w_c2 : (Jvm.Cond.code ({ cls := "java/lang/Object", name := "<init>", desc := "()V" } : Jvm.MethodName) object_method_1_code (1 : Nat) (Option.none : Option Jvm.ClassFile.FieldType)).before args0 about1 = true := code_word (m := ⟨0, 0⟩) (meth := k0m0) (c := k0c0) (by decide +kernel) rfl rfl rfl (by decide +kernel)
set_option maxRecDepth 65536 in
theorem w_c3 : (Jvm.Cond.code ({ cls := "com/example/tallyshare/tallyshare/InputRow", name := "start", desc := "(I)I" } : Jvm.MethodName) prog_5_method_9_code (2 : Nat) (Option.some Jvm.ClassFile.FieldType.int)).before args0 about1 = true := code_word (m := ⟨2, 1⟩) (meth := k2m1) (c := k2c1) (by decide +kernel) rfl rfl rfl (by decide +kernel)
set_option maxRecDepth 65536 in
theorem w_c4 : (Jvm.Cond.code ({ cls := "com/example/tallyshare/tallyshare/InputRow", name := "end", desc := "(I)I" } : Jvm.MethodName) prog_5_method_10_code (3 : Nat) (Option.some Jvm.ClassFile.FieldType.int)).before args0 about1 = true := code_word (m := ⟨2, 2⟩) (meth := k2m2) (c := k2c2) (by decide +kernel) rfl rfl rfl (by decide +kernel)
def codes1 : List Jvm.Cond := [Jvm.Cond.code x code maxLocals ret, Jvm.Cond.code ({ cls := "com/example/tallyshare/tallyshare/InputRow", name := "<init>", desc := "(Ljava/util/Map;[BI[IIZ)V" } : Jvm.MethodName) prog_5_method_2_code (7 : Nat) (Option.none : Option Jvm.ClassFile.FieldType), Jvm.Cond.code ({ cls := "java/lang/Object", name := "<init>", desc := "()V" } : Jvm.MethodName) object_method_1_code (1 : Nat) (Option.none : Option Jvm.ClassFile.FieldType), Jvm.Cond.code ({ cls := "com/example/tallyshare/tallyshare/InputRow", name := "start", desc := "(I)I" } : Jvm.MethodName) prog_5_method_9_code (2 : Nat) (Option.some Jvm.ClassFile.FieldType.int), Jvm.Cond.code ({ cls := "com/example/tallyshare/tallyshare/InputRow", name := "end", desc := "(I)I" } : Jvm.MethodName) prog_5_method_10_code (3 : Nat) (Option.some Jvm.ClassFile.FieldType.int)]
set_option maxRecDepth 65536 in
theorem codes_eq : words1.filter isCode = codes1 := rfl
theorem w_codes : ∀ c ∈ words1.filter isCode, c.before args0 about1 = true := by
  rw [codes_eq]
  intro c hc
  simp only [codes1, List.mem_cons, List.not_mem_nil, or_false] at hc
  rcases hc with rfl | rfl | rfl | rfl | rfl
  · exact w_c0
  · exact w_c1
  · exact w_c2
  · exact w_c3
  · exact w_c4
set_option maxRecDepth 65536 in
theorem w_t1 : (words1.take 24).all (fun c => isCode c || c.before args0 about1) = true := by decide +kernel
set_option maxRecDepth 65536 in
theorem w_t2 : (words1.drop 24).all (fun c => isCode c || c.before args0 about1) = true := by decide +kernel
theorem w_tables : (allAtoms (Jvm.Cond.code x code maxLocals ret :: tables_1)).before args0 about1 = true := by
  rw [allAtoms_all]
  show words1.all (fun c => c.before args0 about1) = true
  refine all_split ?_ w_codes
  rw [← List.take_append_drop 24 words1, List.all_append, w_t1, w_t2]
  rfl
set_option maxRecDepth 65536 in
theorem w_case : (Jvm.Cond.and given_1 narrow_1).before args0 about1 = true := by decide +kernel
theorem w_applies : (headSpec (Jvm.Cond.code x code maxLocals ret :: tables_1) room_1).applies x e0.platform about1 = true :=
  (Spec.applies_iff w_frames).mpr ⟨w_running, w_runnable, w_alone, w_named, w_hears, w_ripe, w_room, w_tables⟩
theorem atStart : AtStart classFile x code maxLocals ret World_1 tables_1 room_1 Calls_1 rest_1 Pre_1 launch0 p0 e0 about1 theMethod args0 below0 :=
  ⟨lists_1, trivial, launch0.admits_env _ _ _, launch0.least_env, fairChoices_fair.cas, fairChoices_fair.clock, w_frames, w_args, w_heap, w_applies, trivial, trivial, w_case⟩
end start1
theorem witness_1 : WitnessClaimed_1 := ⟨start1.p0, start1.e0, start1.about1, start1.theMethod, start1.args0, start1.below0, start1.atStart⟩
end Jvm.Pilot.@@N@@
