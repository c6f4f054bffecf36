import JvmDerived
import JvmDerived.Pilot.@@N@@Statement
import JvmDerived.Pilot.@@N@@Code
set_option linter.unusedVariables false
set_option linter.unusedSimpArgs false
@@BLOCK:NumsL.lean.txt@@
namespace Jvm.Pilot.@@N@@
open Jvm Jvm.ClassFile Sem Op Lib Jvm.Free Jvm.Stand Jvm.LawKit Jvm.RoadKit Bundle Jvm.Pilot.@@N@@.Jvm.D
section OwnKit
variable {p : Program} {l : Launch} {e : Env} {R : Room} {s : State} {m : MethodId} {args : Array Value} {below : List Frame} {meth : Method} {c : Code} {T T' : State} {locs : List Loc} {cells slots : Nat} {Z : State} {a0 : Array Value} {h h' : Heap} {cm sm : Nat} {Q : Option Value → Heap → List Loc → Prop} {pc pc' : Nat} {Ls Ls' : Array Slot} {St : List Value}
/-- the walk's goal: from this frame the method comes to its end, and Q holds of what it leaves -/
def Go (p : Program) (e : Env) (below : List Frame) (s : State) (cm sm : Nat) (Q : Option Value → Heap → List Loc → Prop) (T : State) (g : JFrame) : Prop :=
  ∃ s₂ o, Steps p.tables e below (T.setTop g) s₂ ∧ s₂.status = .running ∧ Ended s₂ below o ∧ ∃ v L, o = .returned v ∧ Q v s₂.heap L ∧ FrameEnd s o s₂ L cm sm
theorem Go.st {g g' : JFrame} (q : ∀ t, Steps p.tables e below (T'.setTop g') t → Steps p.tables e below (T.setTop g) t) (k : Go p e below s cm sm Q T' g') : Go p e below s cm sm Q T g := by
  obtain ⟨s₂, o, st, r⟩ := k
  exact ⟨s₂, o, q _ st, r⟩
theorem Go.weak {g : JFrame} {Q' : Option Value → Heap → List Loc → Prop} (k : Go p e below s cm sm Q T g) (q : ∀ v h L, Q v h L → Q' v h L) : Go p e below s cm sm Q' T g := by
  obtain ⟨s₂, o, st, r1, r2, v, L, r3, r4, r5⟩ := k
  exact ⟨s₂, o, st, r1, r2, v, L, r3, q _ _ _ r4, r5⟩
/-- a contract -/
def Con (l : Launch) (Z : State) (y : MethodName) (bytes : ByteArray) (maxL : Nat) (ret : Option FieldType) (rm : Room) (as' : Array Value) (h : Heap) (Q : Option Value → Heap → List Loc → Prop) : Prop :=
  ∀ ws : List Jvm.Cond, MetFree l y (head1 (Jvm.Cond.code y bytes maxL ret :: ws) rm) (fun a U => a = as' ∧ Z.Warmed39 U.vm ∧ U.heap = h) (fun _ _ _ _ _ => True) (fun _ U o U' => ∃ v L, o = .returned v ∧ Q v U'.heap L ∧ FrameEnd U o U' L rm.cells rm.slots)
theorem Con.of {y : MethodName} {bytes : ByteArray} {maxL : Nat} {ret : Option FieldType} {rm : Room} {as' : Array Value} (hpl : plainFor y = true)
    (body : ∀ (p : Program) (e : Env) (s : State) (m : MethodId) (below : List Frame) (meth : Method) (c : Code) (T : State), Stand p l e rm s m as' below meth c T [] 0 0 → p.tables.exec = Jvm.exec → Z.Warmed39 s.vm → c.code = bytes → c.maxLocals = maxL → s.vm.findClass y.cls = some m.cls → meth.name = y.name → meth.sig.returnType = ret → meth.locks = false → T.heap = h → Go p e below s rm.cells rm.slots Q T (entryFrame m as' maxL)) :
    Con l Z y bytes maxL ret rm as' h Q := by
  intro ws
  refine MetFree.of_bodySF hpl hisR ?_
  intro p e s m args below meth c s₁ Bd hml0 hP hK
  obtain ⟨rfl, hZ, hh⟩ := hP
  exact body p e s m below meth c s₁ (Stand.of_body Bd) Bd.exec hZ Bd.bytes hml0 (findClass_of_methodNamed Bd.named) (name_of_methodNamed Bd.named Bd.method).1 Bd.returns Bd.notSynchronized (by rw [← hh, Bd.state]; rfl)
theorem Con.weak {y : MethodName} {bytes : ByteArray} {maxL : Nat} {ret : Option FieldType} {rm : Room} {as' : Array Value} {Q' : Option Value → Heap → List Loc → Prop} (C : Con l Z y bytes maxL ret rm as' h Q) (q : ∀ v h L, Q v h L → Q' v h L) : Con l Z y bytes maxL ret rm as' h Q' := by
  intro ws p e ha hc hk s m args below hf happ hP hK
  obtain ⟨n, o, h1, h2, h3, v, L, r3, r4, r5⟩ := C ws p e ha hc hk s m args below hf happ hP hK
  exact ⟨n, o, h1, h2, h3, v, L, r3, q _ _ _ r4, r5⟩
/-- what a body that writes nothing leaves -/
abbrev QP (v0 : Option Value) (h0 : Heap) (n0 : Nat) : Option Value → Heap → List Loc → Prop := fun v h L => v = v0 ∧ Fr n0 L ∧ h = h0
/-- what a law leaves -/
abbrev QL (v0 : Option Value) (n0 : Nat) : Option Value → Heap → List Loc → Prop := fun v _ L => v = v0 ∧ Fr n0 L
/-- iushr, lushr -/
def jushr (x y : Int32) : Int32 := (x.toUInt32 >>> (y &&& 31).toUInt32).toInt32
def jlushr (x : Int64) (y : Int32) : Int64 := (x.toUInt64 >>> (y &&& 0x3f).toInt64.toUInt64).toInt64
theorem w_iloadN (X : Stand p l e R s m args below meth c T locs cells slots) (hx : p.tables.exec = Jvm.exec) {k : Fin 4} {v : Int32} (hd : decode c.code pc = .ok (.iload_n k, 1)) (hp : pc + 1 = pc') (hl : Ls[k.val]? = some (.val (.int v)))
    (kk : Go p e below s cm sm Q T (mkF m pc' Ls (.int v :: St))) : Go p e below s cm sm Q T (mkF m pc Ls (St)) := by
  subst hp
  exact Go.st (fun t q => XS.iloadN (g := mkF m pc Ls (St)) X.here hx rfl hd hl q) kk
theorem w_iload (X : Stand p l e R s m args below meth c T locs cells slots) (hx : p.tables.exec = Jvm.exec) {k : Nat} {v : Int32} (hd : decode c.code pc = .ok (.iload k, 2)) (hp : pc + 2 = pc') (hl : Ls[k]? = some (.val (.int v)))
    (kk : Go p e below s cm sm Q T (mkF m pc' Ls (.int v :: St))) : Go p e below s cm sm Q T (mkF m pc Ls (St)) := by
  subst hp
  exact Go.st (fun t q => XS.iload (g := mkF m pc Ls (St)) X.here hx rfl hd hl q) kk
theorem w_istoreN (X : Stand p l e R s m args below meth c T locs cells slots) (hx : p.tables.exec = Jvm.exec) {k : Fin 4} {x : Int32} (hd : decode c.code pc = .ok (.istore_n k, 1)) (hp : pc + 1 = pc') (hl : storeLocals Ls k.val (.int x) = some Ls')
    (kk : Go p e below s cm sm Q T (mkF m pc' Ls' (St))) : Go p e below s cm sm Q T (mkF m pc Ls (.int x :: St)) := by
  subst hp
  exact Go.st (fun t q => XS.istoreN (g := mkF m pc Ls (.int x :: St)) X.here hx rfl hd rfl hl q) kk
theorem w_istore (X : Stand p l e R s m args below meth c T locs cells slots) (hx : p.tables.exec = Jvm.exec) {k : Nat} {x : Int32} (hd : decode c.code pc = .ok (.istore k, 2)) (hp : pc + 2 = pc') (hl : storeLocals Ls k (.int x) = some Ls')
    (kk : Go p e below s cm sm Q T (mkF m pc' Ls' (St))) : Go p e below s cm sm Q T (mkF m pc Ls (.int x :: St)) := by
  subst hp
  exact Go.st (fun t q => XS.istore (g := mkF m pc Ls (.int x :: St)) X.here hx rfl hd rfl hl q) kk
theorem w_lloadN (X : Stand p l e R s m args below meth c T locs cells slots) (hx : p.tables.exec = Jvm.exec) {k : Fin 4} {v : Int64} (hd : decode c.code pc = .ok (.lload_n k, 1)) (hp : pc + 1 = pc') (hl : Ls[k.val]? = some (.val (.long v)))
    (kk : Go p e below s cm sm Q T (mkF m pc' Ls (.long v :: St))) : Go p e below s cm sm Q T (mkF m pc Ls (St)) := by
  subst hp
  exact Go.st (fun t q => XS.lloadN (g := mkF m pc Ls (St)) X.here hx rfl hd hl q) kk
theorem w_lload (X : Stand p l e R s m args below meth c T locs cells slots) (hx : p.tables.exec = Jvm.exec) {k : Nat} {v : Int64} (hd : decode c.code pc = .ok (.lload k, 2)) (hp : pc + 2 = pc') (hl : Ls[k]? = some (.val (.long v)))
    (kk : Go p e below s cm sm Q T (mkF m pc' Ls (.long v :: St))) : Go p e below s cm sm Q T (mkF m pc Ls (St)) := by
  subst hp
  exact Go.st (fun t q => XS.lload (g := mkF m pc Ls (St)) X.here hx rfl hd hl q) kk
theorem w_lstoreN (X : Stand p l e R s m args below meth c T locs cells slots) (hx : p.tables.exec = Jvm.exec) {k : Fin 4} {x : Int64} (hd : decode c.code pc = .ok (.lstore_n k, 1)) (hp : pc + 1 = pc') (hl : storeLocals Ls k.val (.long x) = some Ls')
    (kk : Go p e below s cm sm Q T (mkF m pc' Ls' (St))) : Go p e below s cm sm Q T (mkF m pc Ls (.long x :: St)) := by
  subst hp
  exact Go.st (fun t q => XS.lstoreN (g := mkF m pc Ls (.long x :: St)) X.here hx rfl hd rfl hl q) kk
theorem w_lstore (X : Stand p l e R s m args below meth c T locs cells slots) (hx : p.tables.exec = Jvm.exec) {k : Nat} {x : Int64} (hd : decode c.code pc = .ok (.lstore k, 2)) (hp : pc + 2 = pc') (hl : storeLocals Ls k (.long x) = some Ls')
    (kk : Go p e below s cm sm Q T (mkF m pc' Ls' (St))) : Go p e below s cm sm Q T (mkF m pc Ls (.long x :: St)) := by
  subst hp
  exact Go.st (fun t q => XS.lstore (g := mkF m pc Ls (.long x :: St)) X.here hx rfl hd rfl hl q) kk
theorem w_aloadN (X : Stand p l e R s m args below meth c T locs cells slots) (hx : p.tables.exec = Jvm.exec) {k : Fin 4} {v : Value} (hd : decode c.code pc = .ok (.aload_n k, 1)) (hp : pc + 1 = pc') (hl : Ls[k.val]? = some (.val v)) (hv : v.isRef = true)
    (kk : Go p e below s cm sm Q T (mkF m pc' Ls (v :: St))) : Go p e below s cm sm Q T (mkF m pc Ls (St)) := by
  subst hp
  exact Go.st (fun t q => XS.aloadN (g := mkF m pc Ls (St)) X.here hx rfl hd hl hv q) kk
theorem w_aload (X : Stand p l e R s m args below meth c T locs cells slots) (hx : p.tables.exec = Jvm.exec) {k : Nat} {v : Value} (hd : decode c.code pc = .ok (.aload k, 2)) (hp : pc + 2 = pc') (hl : Ls[k]? = some (.val v)) (hv : v.isRef = true)
    (kk : Go p e below s cm sm Q T (mkF m pc' Ls (v :: St))) : Go p e below s cm sm Q T (mkF m pc Ls (St)) := by
  subst hp
  exact Go.st (fun t q => XS.aload (g := mkF m pc Ls (St)) X.here hx rfl hd hl hv q) kk
theorem w_astoreN (X : Stand p l e R s m args below meth c T locs cells slots) (hx : p.tables.exec = Jvm.exec) {k : Fin 4} {x : Value} (hd : decode c.code pc = .ok (.astore_n k, 1)) (hp : pc + 1 = pc') (hv : x.isRef = true) (hl : storeLocals Ls k.val x = some Ls')
    (kk : Go p e below s cm sm Q T (mkF m pc' Ls' (St))) : Go p e below s cm sm Q T (mkF m pc Ls (x :: St)) := by
  subst hp
  exact Go.st (fun t q => XS.astoreN (g := mkF m pc Ls (x :: St)) X.here hx rfl hd rfl hv hl q) kk
theorem w_astore (X : Stand p l e R s m args below meth c T locs cells slots) (hx : p.tables.exec = Jvm.exec) {k : Nat} {x : Value} (hd : decode c.code pc = .ok (.astore k, 2)) (hp : pc + 2 = pc') (hv : x.isRef = true) (hl : storeLocals Ls k x = some Ls')
    (kk : Go p e below s cm sm Q T (mkF m pc' Ls' (St))) : Go p e below s cm sm Q T (mkF m pc Ls (x :: St)) := by
  subst hp
  exact Go.st (fun t q => XS.astore (g := mkF m pc Ls (x :: St)) X.here hx rfl hd rfl hv hl q) kk
theorem w_iconst (X : Stand p l e R s m args below meth c T locs cells slots) (hx : p.tables.exec = Jvm.exec) {i : Int} {v : Int32} (hd : decode c.code pc = .ok (.iconst i, 1)) (hp : pc + 1 = pc') (hv : Int32.ofInt i = v)
    (kk : Go p e below s cm sm Q T (mkF m pc' Ls (.int v :: St))) : Go p e below s cm sm Q T (mkF m pc Ls St) := by
  subst hp hv
  exact Go.st (fun t q => XS.iconst (g := mkF m pc Ls St) X.here hx rfl hd q) kk
theorem w_bipush (X : Stand p l e R s m args below meth c T locs cells slots) (hx : p.tables.exec = Jvm.exec) {i : Int} {v : Int32} (hd : decode c.code pc = .ok (.bipush i, 2)) (hp : pc + 2 = pc') (hv : (Int8.ofInt i).toInt32 = v)
    (kk : Go p e below s cm sm Q T (mkF m pc' Ls (.int v :: St))) : Go p e below s cm sm Q T (mkF m pc Ls St) := by
  subst hp hv
  exact Go.st (fun t q => XS.bipush (g := mkF m pc Ls St) X.here hx rfl hd q) kk
theorem w_sipush (X : Stand p l e R s m args below meth c T locs cells slots) (hx : p.tables.exec = Jvm.exec) {i : Int} {v : Int32} (hd : decode c.code pc = .ok (.sipush i, 3)) (hp : pc + 3 = pc') (hv : (Int16.ofInt i).toInt32 = v)
    (kk : Go p e below s cm sm Q T (mkF m pc' Ls (.int v :: St))) : Go p e below s cm sm Q T (mkF m pc Ls St) := by
  subst hp hv
  exact Go.st (fun t q => XS.sipush (g := mkF m pc Ls St) X.here hx rfl hd q) kk
theorem w_lconst (X : Stand p l e R s m args below meth c T locs cells slots) (hx : p.tables.exec = Jvm.exec) {i : Fin 2} {v : Int64} (hd : decode c.code pc = .ok (.lconst i, 1)) (hp : pc + 1 = pc') (hv : Int64.ofNat i = v)
    (kk : Go p e below s cm sm Q T (mkF m pc' Ls (.long v :: St))) : Go p e below s cm sm Q T (mkF m pc Ls St) := by
  subst hp hv
  exact Go.st (fun t q => XS.lconst (g := mkF m pc Ls St) X.here hx rfl hd q) kk
theorem w_aconstNull (X : Stand p l e R s m args below meth c T locs cells slots) (hx : p.tables.exec = Jvm.exec)  (hd : decode c.code pc = .ok (.aconst_null, 1)) (hp : pc + 1 = pc')
    (kk : Go p e below s cm sm Q T (mkF m pc' Ls (.null :: St))) : Go p e below s cm sm Q T (mkF m pc Ls (St)) := by
  subst hp
  exact Go.st (fun t q => XS.aconstNull (g := mkF m pc Ls (St)) X.here hx rfl hd q) kk
theorem w_iadd (X : Stand p l e R s m args below meth c T locs cells slots) (hx : p.tables.exec = Jvm.exec) {x y : Int32} (hd : decode c.code pc = .ok (.iadd, 1)) (hp : pc + 1 = pc')
    (kk : Go p e below s cm sm Q T (mkF m pc' Ls (.int (x + y) :: St))) : Go p e below s cm sm Q T (mkF m pc Ls (.int y :: .int x :: St)) := by
  subst hp
  exact Go.st (fun t q => XS.iadd (g := mkF m pc Ls (.int y :: .int x :: St)) X.here hx rfl hd rfl q) kk
theorem w_ladd (X : Stand p l e R s m args below meth c T locs cells slots) (hx : p.tables.exec = Jvm.exec) {x y : Int64} (hd : decode c.code pc = .ok (.ladd, 1)) (hp : pc + 1 = pc')
    (kk : Go p e below s cm sm Q T (mkF m pc' Ls (.long (x + y) :: St))) : Go p e below s cm sm Q T (mkF m pc Ls (.long y :: .long x :: St)) := by
  subst hp
  exact Go.st (fun t q => XS.ladd (g := mkF m pc Ls (.long y :: .long x :: St)) X.here hx rfl hd rfl q) kk
theorem w_isub (X : Stand p l e R s m args below meth c T locs cells slots) (hx : p.tables.exec = Jvm.exec) {x y : Int32} (hd : decode c.code pc = .ok (.isub, 1)) (hp : pc + 1 = pc')
    (kk : Go p e below s cm sm Q T (mkF m pc' Ls (.int (x - y) :: St))) : Go p e below s cm sm Q T (mkF m pc Ls (.int y :: .int x :: St)) := by
  subst hp
  exact Go.st (fun t q => XS.isub (g := mkF m pc Ls (.int y :: .int x :: St)) X.here hx rfl hd rfl q) kk
theorem w_lsub (X : Stand p l e R s m args below meth c T locs cells slots) (hx : p.tables.exec = Jvm.exec) {x y : Int64} (hd : decode c.code pc = .ok (.lsub, 1)) (hp : pc + 1 = pc')
    (kk : Go p e below s cm sm Q T (mkF m pc' Ls (.long (x - y) :: St))) : Go p e below s cm sm Q T (mkF m pc Ls (.long y :: .long x :: St)) := by
  subst hp
  exact Go.st (fun t q => XS.lsub (g := mkF m pc Ls (.long y :: .long x :: St)) X.here hx rfl hd rfl q) kk
theorem w_imul (X : Stand p l e R s m args below meth c T locs cells slots) (hx : p.tables.exec = Jvm.exec) {x y : Int32} (hd : decode c.code pc = .ok (.imul, 1)) (hp : pc + 1 = pc')
    (kk : Go p e below s cm sm Q T (mkF m pc' Ls (.int (x * y) :: St))) : Go p e below s cm sm Q T (mkF m pc Ls (.int y :: .int x :: St)) := by
  subst hp
  exact Go.st (fun t q => XS.imul (g := mkF m pc Ls (.int y :: .int x :: St)) X.here hx rfl hd rfl q) kk
theorem w_lmul (X : Stand p l e R s m args below meth c T locs cells slots) (hx : p.tables.exec = Jvm.exec) {x y : Int64} (hd : decode c.code pc = .ok (.lmul, 1)) (hp : pc + 1 = pc')
    (kk : Go p e below s cm sm Q T (mkF m pc' Ls (.long (x * y) :: St))) : Go p e below s cm sm Q T (mkF m pc Ls (.long y :: .long x :: St)) := by
  subst hp
  exact Go.st (fun t q => XS.lmul (g := mkF m pc Ls (.long y :: .long x :: St)) X.here hx rfl hd rfl q) kk
theorem w_iand (X : Stand p l e R s m args below meth c T locs cells slots) (hx : p.tables.exec = Jvm.exec) {x y : Int32} (hd : decode c.code pc = .ok (.iand, 1)) (hp : pc + 1 = pc')
    (kk : Go p e below s cm sm Q T (mkF m pc' Ls (.int (x &&& y) :: St))) : Go p e below s cm sm Q T (mkF m pc Ls (.int y :: .int x :: St)) := by
  subst hp
  exact Go.st (fun t q => XS.iand (g := mkF m pc Ls (.int y :: .int x :: St)) X.here hx rfl hd rfl q) kk
theorem w_land (X : Stand p l e R s m args below meth c T locs cells slots) (hx : p.tables.exec = Jvm.exec) {x y : Int64} (hd : decode c.code pc = .ok (.land, 1)) (hp : pc + 1 = pc')
    (kk : Go p e below s cm sm Q T (mkF m pc' Ls (.long (x &&& y) :: St))) : Go p e below s cm sm Q T (mkF m pc Ls (.long y :: .long x :: St)) := by
  subst hp
  exact Go.st (fun t q => XS.land (g := mkF m pc Ls (.long y :: .long x :: St)) X.here hx rfl hd rfl q) kk
theorem w_ior (X : Stand p l e R s m args below meth c T locs cells slots) (hx : p.tables.exec = Jvm.exec) {x y : Int32} (hd : decode c.code pc = .ok (.ior, 1)) (hp : pc + 1 = pc')
    (kk : Go p e below s cm sm Q T (mkF m pc' Ls (.int (x ||| y) :: St))) : Go p e below s cm sm Q T (mkF m pc Ls (.int y :: .int x :: St)) := by
  subst hp
  exact Go.st (fun t q => XS.ior (g := mkF m pc Ls (.int y :: .int x :: St)) X.here hx rfl hd rfl q) kk
theorem w_lor (X : Stand p l e R s m args below meth c T locs cells slots) (hx : p.tables.exec = Jvm.exec) {x y : Int64} (hd : decode c.code pc = .ok (.lor, 1)) (hp : pc + 1 = pc')
    (kk : Go p e below s cm sm Q T (mkF m pc' Ls (.long (x ||| y) :: St))) : Go p e below s cm sm Q T (mkF m pc Ls (.long y :: .long x :: St)) := by
  subst hp
  exact Go.st (fun t q => XS.lor (g := mkF m pc Ls (.long y :: .long x :: St)) X.here hx rfl hd rfl q) kk
theorem w_ixor (X : Stand p l e R s m args below meth c T locs cells slots) (hx : p.tables.exec = Jvm.exec) {x y : Int32} (hd : decode c.code pc = .ok (.ixor, 1)) (hp : pc + 1 = pc')
    (kk : Go p e below s cm sm Q T (mkF m pc' Ls (.int (x ^^^ y) :: St))) : Go p e below s cm sm Q T (mkF m pc Ls (.int y :: .int x :: St)) := by
  subst hp
  exact Go.st (fun t q => XS.ixor (g := mkF m pc Ls (.int y :: .int x :: St)) X.here hx rfl hd rfl q) kk
theorem w_lxor (X : Stand p l e R s m args below meth c T locs cells slots) (hx : p.tables.exec = Jvm.exec) {x y : Int64} (hd : decode c.code pc = .ok (.lxor, 1)) (hp : pc + 1 = pc')
    (kk : Go p e below s cm sm Q T (mkF m pc' Ls (.long (x ^^^ y) :: St))) : Go p e below s cm sm Q T (mkF m pc Ls (.long y :: .long x :: St)) := by
  subst hp
  exact Go.st (fun t q => XS.lxor (g := mkF m pc Ls (.long y :: .long x :: St)) X.here hx rfl hd rfl q) kk
theorem w_idiv (X : Stand p l e R s m args below meth c T locs cells slots) (hx : p.tables.exec = Jvm.exec) {x y : Int32} (hd : decode c.code pc = .ok (.idiv, 1)) (hp : pc + 1 = pc') (hy : y ≠ 0)
    (kk : Go p e below s cm sm Q T (mkF m pc' Ls (.int (x / y) :: St))) : Go p e below s cm sm Q T (mkF m pc Ls (.int y :: .int x :: St)) := by
  subst hp
  exact Go.st (fun t q => XS.idiv (g := mkF m pc Ls (.int y :: .int x :: St)) X.here hx rfl hd rfl hy q) kk
theorem own_irem (x y : Int32) : x - x / y * y = x % y := by
  apply Int32.toInt_inj.mp
  have h : x.toInt - x.toInt.tdiv y.toInt * y.toInt = x.toInt.tmod y.toInt := by
    have := Int.mul_tdiv_add_tmod x.toInt y.toInt
    rw [Int.mul_comm]; omega
  have hr := (x % y).toInt_lt
  have hl := (x % y).le_toInt
  rw [Int32.toInt_mod] at hr hl
  rw [Int32.toInt_sub, Int32.toInt_mul, Int32.toInt_div, Int32.toInt_mod, Int.bmod_mul_bmod, Int.sub_bmod_bmod, h, Jvm.Kit.bmod32 (by omega) (by omega)]
theorem w_irem (X : Stand p l e R s m args below meth c T locs cells slots) (hx : p.tables.exec = Jvm.exec) {x y : Int32} (hd : decode c.code pc = .ok (.irem, 1)) (hp : pc + 1 = pc') (hy : y ≠ 0)
    (kk : Go p e below s cm sm Q T (mkF m pc' Ls (.int (x % y) :: St))) : Go p e below s cm sm Q T (mkF m pc Ls (.int y :: .int x :: St)) := by
  subst hp
  rw [← own_irem] at kk
  exact Go.st (fun t q => XS.irem (g := mkF m pc Ls (.int y :: .int x :: St)) X.here hx rfl hd rfl hy q) kk
theorem w_ldiv (X : Stand p l e R s m args below meth c T locs cells slots) (hx : p.tables.exec = Jvm.exec) {x y : Int64} (hd : decode c.code pc = .ok (.ldiv, 1)) (hp : pc + 1 = pc') (hy : y ≠ 0)
    (kk : Go p e below s cm sm Q T (mkF m pc' Ls (.long (x / y) :: St))) : Go p e below s cm sm Q T (mkF m pc Ls (.long y :: .long x :: St)) := by
  subst hp
  exact Go.st (fun t q => XS.ldiv (g := mkF m pc Ls (.long y :: .long x :: St)) X.here hx rfl hd rfl hy q) kk
theorem own_lrem (x y : Int64) : x - x / y * y = x % y := by
  apply Int64.toInt_inj.mp
  have h : x.toInt - x.toInt.tdiv y.toInt * y.toInt = x.toInt.tmod y.toInt := by
    have := Int.mul_tdiv_add_tmod x.toInt y.toInt
    rw [Int.mul_comm]; omega
  have hr := (x % y).toInt_lt
  have hl := (x % y).le_toInt
  rw [Int64.toInt_mod] at hr hl
  rw [Int64.toInt_sub, Int64.toInt_mul, Int64.toInt_div, Int64.toInt_mod, Int.bmod_mul_bmod, Int.sub_bmod_bmod, h, Jvm.Kit.bmod64 (by omega) (by omega)]
theorem w_lrem (X : Stand p l e R s m args below meth c T locs cells slots) (hx : p.tables.exec = Jvm.exec) {x y : Int64} (hd : decode c.code pc = .ok (.lrem, 1)) (hp : pc + 1 = pc') (hy : y ≠ 0)
    (kk : Go p e below s cm sm Q T (mkF m pc' Ls (.long (x % y) :: St))) : Go p e below s cm sm Q T (mkF m pc Ls (.long y :: .long x :: St)) := by
  subst hp
  rw [← own_lrem] at kk
  exact Go.st (fun t q => XS.lrem (g := mkF m pc Ls (.long y :: .long x :: St)) X.here hx rfl hd rfl hy q) kk
theorem w_ineg (X : Stand p l e R s m args below meth c T locs cells slots) (hx : p.tables.exec = Jvm.exec) {x : Int32} (hd : decode c.code pc = .ok (.ineg, 1)) (hp : pc + 1 = pc')
    (kk : Go p e below s cm sm Q T (mkF m pc' Ls (.int (-x) :: St))) : Go p e below s cm sm Q T (mkF m pc Ls (.int x :: St)) := by
  subst hp
  exact Go.st (fun t q => XS.ineg (g := mkF m pc Ls (.int x :: St)) X.here hx rfl hd rfl q) kk
theorem w_lneg (X : Stand p l e R s m args below meth c T locs cells slots) (hx : p.tables.exec = Jvm.exec) {x : Int64} (hd : decode c.code pc = .ok (.lneg, 1)) (hp : pc + 1 = pc')
    (kk : Go p e below s cm sm Q T (mkF m pc' Ls (.long (-x) :: St))) : Go p e below s cm sm Q T (mkF m pc Ls (.long x :: St)) := by
  subst hp
  exact Go.st (fun t q => XS.lneg (g := mkF m pc Ls (.long x :: St)) X.here hx rfl hd rfl q) kk
theorem w_i2l (X : Stand p l e R s m args below meth c T locs cells slots) (hx : p.tables.exec = Jvm.exec) {x : Int32} (hd : decode c.code pc = .ok (.i2l, 1)) (hp : pc + 1 = pc')
    (kk : Go p e below s cm sm Q T (mkF m pc' Ls (.long x.toInt64 :: St))) : Go p e below s cm sm Q T (mkF m pc Ls (.int x :: St)) := by
  subst hp
  exact Go.st (fun t q => XS.i2l (g := mkF m pc Ls (.int x :: St)) X.here hx rfl hd rfl q) kk
theorem w_l2i (X : Stand p l e R s m args below meth c T locs cells slots) (hx : p.tables.exec = Jvm.exec) {x : Int64} (hd : decode c.code pc = .ok (.l2i, 1)) (hp : pc + 1 = pc')
    (kk : Go p e below s cm sm Q T (mkF m pc' Ls (.int x.toInt32 :: St))) : Go p e below s cm sm Q T (mkF m pc Ls (.long x :: St)) := by
  subst hp
  exact Go.st (fun t q => XS.l2i (g := mkF m pc Ls (.long x :: St)) X.here hx rfl hd rfl q) kk
theorem w_i2b (X : Stand p l e R s m args below meth c T locs cells slots) (hx : p.tables.exec = Jvm.exec) {x : Int32} (hd : decode c.code pc = .ok (.i2b, 1)) (hp : pc + 1 = pc')
    (kk : Go p e below s cm sm Q T (mkF m pc' Ls (.int x.toInt8.toInt32 :: St))) : Go p e below s cm sm Q T (mkF m pc Ls (.int x :: St)) := by
  subst hp
  exact Go.st (fun t q => XS.i2b (g := mkF m pc Ls (.int x :: St)) X.here hx rfl hd rfl q) kk
theorem w_i2c (X : Stand p l e R s m args below meth c T locs cells slots) (hx : p.tables.exec = Jvm.exec) {x : Int32} (hd : decode c.code pc = .ok (.i2c, 1)) (hp : pc + 1 = pc')
    (kk : Go p e below s cm sm Q T (mkF m pc' Ls (.int x.toUInt32.toUInt16.toUInt32.toInt32 :: St))) : Go p e below s cm sm Q T (mkF m pc Ls (.int x :: St)) := by
  subst hp
  exact Go.st (fun t q => XS.i2c (g := mkF m pc Ls (.int x :: St)) X.here hx rfl hd rfl q) kk
theorem w_ishl (X : Stand p l e R s m args below meth c T locs cells slots) (hx : p.tables.exec = Jvm.exec) {x y : Int32} (hd : decode c.code pc = .ok (.ishl, 1)) (hp : pc + 1 = pc')
    (kk : Go p e below s cm sm Q T (mkF m pc' Ls (.int (x <<< (y &&& 31)) :: St))) : Go p e below s cm sm Q T (mkF m pc Ls (.int y :: .int x :: St)) := by
  subst hp
  exact Go.st (fun t q => XS.ishl (g := mkF m pc Ls (.int y :: .int x :: St)) X.here hx rfl hd rfl q) kk
theorem w_ishr (X : Stand p l e R s m args below meth c T locs cells slots) (hx : p.tables.exec = Jvm.exec) {x y : Int32} (hd : decode c.code pc = .ok (.ishr, 1)) (hp : pc + 1 = pc')
    (kk : Go p e below s cm sm Q T (mkF m pc' Ls (.int (x >>> (y &&& 31)) :: St))) : Go p e below s cm sm Q T (mkF m pc Ls (.int y :: .int x :: St)) := by
  subst hp
  exact Go.st (fun t q => XS.ishr (g := mkF m pc Ls (.int y :: .int x :: St)) X.here hx rfl hd rfl q) kk
theorem w_iushr (X : Stand p l e R s m args below meth c T locs cells slots) (hx : p.tables.exec = Jvm.exec) {x y : Int32} (hd : decode c.code pc = .ok (.iushr, 1)) (hp : pc + 1 = pc')
    (kk : Go p e below s cm sm Q T (mkF m pc' Ls (.int (jushr x y) :: St))) : Go p e below s cm sm Q T (mkF m pc Ls (.int y :: .int x :: St)) := by
  subst hp
  exact Go.st (fun t q => XS.iushr (g := mkF m pc Ls (.int y :: .int x :: St)) X.here hx rfl hd rfl q) kk
theorem w_lshl (X : Stand p l e R s m args below meth c T locs cells slots) (hx : p.tables.exec = Jvm.exec) {x : Int64} {y : Int32} (hd : decode c.code pc = .ok (.lshl, 1)) (hp : pc + 1 = pc')
    (kk : Go p e below s cm sm Q T (mkF m pc' Ls (.long (x <<< (y &&& 0x3f).toInt64) :: St))) : Go p e below s cm sm Q T (mkF m pc Ls (.int y :: .long x :: St)) := by
  subst hp
  exact Go.st (fun t q => XS.lshl (g := mkF m pc Ls (.int y :: .long x :: St)) X.here hx rfl hd rfl q) kk
theorem w_lshr (X : Stand p l e R s m args below meth c T locs cells slots) (hx : p.tables.exec = Jvm.exec) {x : Int64} {y : Int32} (hd : decode c.code pc = .ok (.lshr, 1)) (hp : pc + 1 = pc')
    (kk : Go p e below s cm sm Q T (mkF m pc' Ls (.long (x >>> (y &&& 0x3f).toInt64) :: St))) : Go p e below s cm sm Q T (mkF m pc Ls (.int y :: .long x :: St)) := by
  subst hp
  exact Go.st (fun t q => XS.lshr (g := mkF m pc Ls (.int y :: .long x :: St)) X.here hx rfl hd rfl q) kk
theorem w_lushr (X : Stand p l e R s m args below meth c T locs cells slots) (hx : p.tables.exec = Jvm.exec) {x : Int64} {y : Int32} (hd : decode c.code pc = .ok (.lushr, 1)) (hp : pc + 1 = pc')
    (kk : Go p e below s cm sm Q T (mkF m pc' Ls (.long (jlushr x y) :: St))) : Go p e below s cm sm Q T (mkF m pc Ls (.int y :: .long x :: St)) := by
  subst hp
  exact Go.st (fun t q => XS.lushr (g := mkF m pc Ls (.int y :: .long x :: St)) X.here hx rfl hd rfl q) kk
theorem w_lcmp (X : Stand p l e R s m args below meth c T locs cells slots) (hx : p.tables.exec = Jvm.exec) {x y : Int64} (hd : decode c.code pc = .ok (.lcmp, 1)) (hp : pc + 1 = pc')
    (kk : Go p e below s cm sm Q T (mkF m pc' Ls (.int (lcmpW x y) :: St))) : Go p e below s cm sm Q T (mkF m pc Ls (.long y :: .long x :: St)) := by
  subst hp
  exact Go.st (fun t q => XS.lcmp (g := mkF m pc Ls (.long y :: .long x :: St)) X.here hx rfl hd rfl q) kk
theorem w_dup (X : Stand p l e R s m args below meth c T locs cells slots) (hx : p.tables.exec = Jvm.exec) {x : Value} (hd : decode c.code pc = .ok (.dup, 1)) (hp : pc + 1 = pc') (hv : x.category = 1)
    (kk : Go p e below s cm sm Q T (mkF m pc' Ls (x :: x :: St))) : Go p e below s cm sm Q T (mkF m pc Ls (x :: St)) := by
  subst hp
  exact Go.st (fun t q => XS.dup (g := mkF m pc Ls (x :: St)) X.here hx rfl hd rfl hv q) kk
theorem w_pop (X : Stand p l e R s m args below meth c T locs cells slots) (hx : p.tables.exec = Jvm.exec) {x : Value} (hd : decode c.code pc = .ok (.pop, 1)) (hp : pc + 1 = pc') (hv : x.category = 1)
    (kk : Go p e below s cm sm Q T (mkF m pc' Ls (St))) : Go p e below s cm sm Q T (mkF m pc Ls (x :: St)) := by
  subst hp
  exact Go.st (fun t q => XS.pop (g := mkF m pc Ls (x :: St)) X.here hx rfl hd rfl hv q) kk
theorem w_dupX1 (X : Stand p l e R s m args below meth c T locs cells slots) (hx : p.tables.exec = Jvm.exec) {x y : Value} (hd : decode c.code pc = .ok (.dup_x1, 1)) (hp : pc + 1 = pc') (hv : x.category = 1) (hv' : y.category = 1)
    (kk : Go p e below s cm sm Q T (mkF m pc' Ls (x :: y :: x :: St))) : Go p e below s cm sm Q T (mkF m pc Ls (x :: y :: St)) := by
  subst hp
  exact Go.st (fun t q => XS.dupX1 (g := mkF m pc Ls (x :: y :: St)) X.here hx rfl hd rfl hv hv' q) kk
theorem w_iinc (X : Stand p l e R s m args below meth c T locs cells slots) (hx : p.tables.exec = Jvm.exec) {k : Nat} {cst : Int} {x w : Int32} (hd : decode c.code pc = .ok (.iinc k cst, 3)) (hp : pc + 3 = pc') (hl : Ls[k]? = some (.val (.int x))) (hv : Int32.ofInt cst = w) (hl' : storeLocals Ls k (.int (x + w)) = some Ls')
    (kk : Go p e below s cm sm Q T (mkF m pc' Ls' St)) : Go p e below s cm sm Q T (mkF m pc Ls St) := by
  subst hp hv
  exact Go.st (fun t q => XS.iinc (g := mkF m pc Ls St) X.here hx rfl hd hl hl' q) kk
theorem w_goto (X : Stand p l e R s m args below meth c T locs cells slots) (hx : p.tables.exec = Jvm.exec) {o : Int} (hd : decode c.code pc = .ok (.goto o, 3)) (ho : 0 ≤ (pc : Int) + o) (hp : ((pc : Int) + o).toNat = pc')
    (kk : Go p e below s cm sm Q T (mkF m pc' Ls St)) : Go p e below s cm sm Q T (mkF m pc Ls St) :=
  Go.st (fun t q => XS.goto (g := mkF m pc Ls St) X.here hx rfl (pc0 := pc) (pc' := pc') rfl hd ho hp q) kk
theorem w_icmp0 (X : Stand p l e R s m args below meth c T locs cells slots) (hx : p.tables.exec = Jvm.exec) {cd : ClassFile.Cond} {x y : Int32} {o : Int} {pt pf : Nat} (hd : decode c.code pc = .ok (.if_icmp cd o, 3)) (hf : pc + 3 = pf) (ho : 0 ≤ (pc : Int) + o) (hp : ((pc : Int) + o).toNat = pt)
    (kT : if_icmp.holds cd x y = true → Go p e below s cm sm Q T (mkF m pt Ls St)) (kF : if_icmp.holds cd x y = false → Go p e below s cm sm Q T (mkF m pf Ls St)) : Go p e below s cm sm Q T (mkF m pc Ls (.int y :: .int x :: St)) := by
  subst hf
  cases hc : if_icmp.holds cd x y with
  | true => exact Go.st (fun t q => XS.icmpYes (g := mkF m pc Ls (.int y :: .int x :: St)) X.here hx rfl (pc0 := pc) (pc' := pt) rfl hd rfl hc ho hp q) (kT hc)
  | false => exact Go.st (fun t q => XS.icmpNo (g := mkF m pc Ls (.int y :: .int x :: St)) X.here hx rfl hd rfl hc q) (kF hc)
theorem w_if0 (X : Stand p l e R s m args below meth c T locs cells slots) (hx : p.tables.exec = Jvm.exec) {cd : ClassFile.Cond} {x : Int32} {o : Int} {pt pf : Nat} (hd : decode c.code pc = .ok (.ifCond cd o, 3)) (hf : pc + 3 = pf) (ho : 0 ≤ (pc : Int) + o) (hp : ((pc : Int) + o).toNat = pt)
    (kT : if_icmp.holds cd x 0 = true → Go p e below s cm sm Q T (mkF m pt Ls St)) (kF : if_icmp.holds cd x 0 = false → Go p e below s cm sm Q T (mkF m pf Ls St)) : Go p e below s cm sm Q T (mkF m pc Ls (.int x :: St)) := by
  subst hf
  cases hc : if_icmp.holds cd x 0 with
  | true => exact Go.st (fun t q => XS.ifYes (g := mkF m pc Ls (.int x :: St)) X.here hx rfl (pc0 := pc) (pc' := pt) rfl hd rfl ((if0 _ _).trans hc) ho hp q) (kT hc)
  | false => exact Go.st (fun t q => XS.ifNo (g := mkF m pc Ls (.int x :: St)) X.here hx rfl hd rfl ((if0 _ _).trans hc) q) (kF hc)
theorem h_lt {x y : Int32} : (if_icmp.holds .lt x y = true → x < y) ∧ (if_icmp.holds .lt x y = false → ¬ x < y) := ⟨fun h => Decidable.byContradiction fun q => by simp [(flt q).1] at h, fun h q => by simp [(tlt q).1] at h⟩
theorem h_ge {x y : Int32} : (if_icmp.holds .ge x y = true → ¬ x < y) ∧ (if_icmp.holds .ge x y = false → x < y) := ⟨fun h q => by simp [(tlt q).2.1] at h, fun h => Decidable.byContradiction fun q => by simp [(flt q).2.1] at h⟩
theorem h_gt {x y : Int32} : (if_icmp.holds .gt x y = true → y < x) ∧ (if_icmp.holds .gt x y = false → ¬ y < x) := ⟨fun h => Decidable.byContradiction fun q => by simp [(flt q).2.2.1] at h, fun h q => by simp [(tlt q).2.2.1] at h⟩
theorem h_le {x y : Int32} : (if_icmp.holds .le x y = true → ¬ y < x) ∧ (if_icmp.holds .le x y = false → y < x) := ⟨fun h q => by simp [(tlt q).2.2.2] at h, fun h => Decidable.byContradiction fun q => by simp [(flt q).2.2.2] at h⟩
theorem h_eq {x y : Int32} : (if_icmp.holds .eq x y = true → x = y) ∧ (if_icmp.holds .eq x y = false → ¬ x = y) := ⟨fun h => Decidable.byContradiction fun q => by simp [(feq q).1] at h, fun h q => by simp [(teq q).1] at h⟩
theorem h_ne {x y : Int32} : (if_icmp.holds .ne x y = true → ¬ x = y) ∧ (if_icmp.holds .ne x y = false → x = y) := ⟨fun h q => by simp [(teq q).2] at h, fun h => Decidable.byContradiction fun q => by simp [(feq q).2] at h⟩
theorem w_icmp_lt (X : Stand p l e R s m args below meth c T locs cells slots) (hx : p.tables.exec = Jvm.exec) {x y : Int32} {o : Int} {pt pf : Nat} (hd : decode c.code pc = .ok (.if_icmp .lt o, 3)) (hf : pc + 3 = pf) (ho : 0 ≤ (pc : Int) + o) (hp : ((pc : Int) + o).toNat = pt)
    (kT : x < y → Go p e below s cm sm Q T (mkF m pt Ls St)) (kF : ¬ (x < y) → Go p e below s cm sm Q T (mkF m pf Ls St)) : Go p e below s cm sm Q T (mkF m pc Ls (.int y :: .int x :: St)) :=
  w_icmp0 X hx hd hf ho hp (fun h => kT (h_lt.1 h)) (fun h => kF (h_lt.2 h))
theorem w_if_lt (X : Stand p l e R s m args below meth c T locs cells slots) (hx : p.tables.exec = Jvm.exec) {x : Int32} {o : Int} {pt pf : Nat} (hd : decode c.code pc = .ok (.ifCond .lt o, 3)) (hf : pc + 3 = pf) (ho : 0 ≤ (pc : Int) + o) (hp : ((pc : Int) + o).toNat = pt)
    (kT : x < 0 → Go p e below s cm sm Q T (mkF m pt Ls St)) (kF : ¬ (x < 0) → Go p e below s cm sm Q T (mkF m pf Ls St)) : Go p e below s cm sm Q T (mkF m pc Ls (.int x :: St)) :=
  w_if0 X hx hd hf ho hp (fun h => kT (h_lt.1 h)) (fun h => kF (h_lt.2 h))
theorem w_ifL_lt (X : Stand p l e R s m args below meth c T locs cells slots) (hx : p.tables.exec = Jvm.exec) {x y : Int64} {o : Int} {pt pf : Nat} (hd : decode c.code pc = .ok (.ifCond .lt o, 3)) (hf : pc + 3 = pf) (ho : 0 ≤ (pc : Int) + o) (hp : ((pc : Int) + o).toNat = pt)
    (kT : x < y → Go p e below s cm sm Q T (mkF m pt Ls St)) (kF : ¬ (x < y) → Go p e below s cm sm Q T (mkF m pf Ls St)) : Go p e below s cm sm Q T (mkF m pc Ls (.int (lcmpW x y) :: St)) :=
  w_if_lt X hx hd hf ho hp (fun q => kT ((lw_lt x y).1 q)) (fun q => kF (fun r => q ((lw_lt x y).2 r)))
theorem w_icmp_ge (X : Stand p l e R s m args below meth c T locs cells slots) (hx : p.tables.exec = Jvm.exec) {x y : Int32} {o : Int} {pt pf : Nat} (hd : decode c.code pc = .ok (.if_icmp .ge o, 3)) (hf : pc + 3 = pf) (ho : 0 ≤ (pc : Int) + o) (hp : ((pc : Int) + o).toNat = pt)
    (kT : ¬ (x < y) → Go p e below s cm sm Q T (mkF m pt Ls St)) (kF : x < y → Go p e below s cm sm Q T (mkF m pf Ls St)) : Go p e below s cm sm Q T (mkF m pc Ls (.int y :: .int x :: St)) :=
  w_icmp0 X hx hd hf ho hp (fun h => kT (h_ge.1 h)) (fun h => kF (h_ge.2 h))
theorem w_if_ge (X : Stand p l e R s m args below meth c T locs cells slots) (hx : p.tables.exec = Jvm.exec) {x : Int32} {o : Int} {pt pf : Nat} (hd : decode c.code pc = .ok (.ifCond .ge o, 3)) (hf : pc + 3 = pf) (ho : 0 ≤ (pc : Int) + o) (hp : ((pc : Int) + o).toNat = pt)
    (kT : ¬ (x < 0) → Go p e below s cm sm Q T (mkF m pt Ls St)) (kF : x < 0 → Go p e below s cm sm Q T (mkF m pf Ls St)) : Go p e below s cm sm Q T (mkF m pc Ls (.int x :: St)) :=
  w_if0 X hx hd hf ho hp (fun h => kT (h_ge.1 h)) (fun h => kF (h_ge.2 h))
theorem w_ifL_ge (X : Stand p l e R s m args below meth c T locs cells slots) (hx : p.tables.exec = Jvm.exec) {x y : Int64} {o : Int} {pt pf : Nat} (hd : decode c.code pc = .ok (.ifCond .ge o, 3)) (hf : pc + 3 = pf) (ho : 0 ≤ (pc : Int) + o) (hp : ((pc : Int) + o).toNat = pt)
    (kT : ¬ (x < y) → Go p e below s cm sm Q T (mkF m pt Ls St)) (kF : x < y → Go p e below s cm sm Q T (mkF m pf Ls St)) : Go p e below s cm sm Q T (mkF m pc Ls (.int (lcmpW x y) :: St)) :=
  w_if_ge X hx hd hf ho hp (fun q => kT (fun r => q ((lw_lt x y).2 r))) (fun q => kF ((lw_lt x y).1 q))
theorem w_icmp_gt (X : Stand p l e R s m args below meth c T locs cells slots) (hx : p.tables.exec = Jvm.exec) {x y : Int32} {o : Int} {pt pf : Nat} (hd : decode c.code pc = .ok (.if_icmp .gt o, 3)) (hf : pc + 3 = pf) (ho : 0 ≤ (pc : Int) + o) (hp : ((pc : Int) + o).toNat = pt)
    (kT : y < x → Go p e below s cm sm Q T (mkF m pt Ls St)) (kF : ¬ (y < x) → Go p e below s cm sm Q T (mkF m pf Ls St)) : Go p e below s cm sm Q T (mkF m pc Ls (.int y :: .int x :: St)) :=
  w_icmp0 X hx hd hf ho hp (fun h => kT (h_gt.1 h)) (fun h => kF (h_gt.2 h))
theorem w_if_gt (X : Stand p l e R s m args below meth c T locs cells slots) (hx : p.tables.exec = Jvm.exec) {x : Int32} {o : Int} {pt pf : Nat} (hd : decode c.code pc = .ok (.ifCond .gt o, 3)) (hf : pc + 3 = pf) (ho : 0 ≤ (pc : Int) + o) (hp : ((pc : Int) + o).toNat = pt)
    (kT : 0 < x → Go p e below s cm sm Q T (mkF m pt Ls St)) (kF : ¬ (0 < x) → Go p e below s cm sm Q T (mkF m pf Ls St)) : Go p e below s cm sm Q T (mkF m pc Ls (.int x :: St)) :=
  w_if0 X hx hd hf ho hp (fun h => kT (h_gt.1 h)) (fun h => kF (h_gt.2 h))
theorem w_ifL_gt (X : Stand p l e R s m args below meth c T locs cells slots) (hx : p.tables.exec = Jvm.exec) {x y : Int64} {o : Int} {pt pf : Nat} (hd : decode c.code pc = .ok (.ifCond .gt o, 3)) (hf : pc + 3 = pf) (ho : 0 ≤ (pc : Int) + o) (hp : ((pc : Int) + o).toNat = pt)
    (kT : y < x → Go p e below s cm sm Q T (mkF m pt Ls St)) (kF : ¬ (y < x) → Go p e below s cm sm Q T (mkF m pf Ls St)) : Go p e below s cm sm Q T (mkF m pc Ls (.int (lcmpW x y) :: St)) :=
  w_if_gt X hx hd hf ho hp (fun q => kT ((lw_gt x y).1 q)) (fun q => kF (fun r => q ((lw_gt x y).2 r)))
theorem w_icmp_le (X : Stand p l e R s m args below meth c T locs cells slots) (hx : p.tables.exec = Jvm.exec) {x y : Int32} {o : Int} {pt pf : Nat} (hd : decode c.code pc = .ok (.if_icmp .le o, 3)) (hf : pc + 3 = pf) (ho : 0 ≤ (pc : Int) + o) (hp : ((pc : Int) + o).toNat = pt)
    (kT : ¬ (y < x) → Go p e below s cm sm Q T (mkF m pt Ls St)) (kF : y < x → Go p e below s cm sm Q T (mkF m pf Ls St)) : Go p e below s cm sm Q T (mkF m pc Ls (.int y :: .int x :: St)) :=
  w_icmp0 X hx hd hf ho hp (fun h => kT (h_le.1 h)) (fun h => kF (h_le.2 h))
theorem w_if_le (X : Stand p l e R s m args below meth c T locs cells slots) (hx : p.tables.exec = Jvm.exec) {x : Int32} {o : Int} {pt pf : Nat} (hd : decode c.code pc = .ok (.ifCond .le o, 3)) (hf : pc + 3 = pf) (ho : 0 ≤ (pc : Int) + o) (hp : ((pc : Int) + o).toNat = pt)
    (kT : ¬ (0 < x) → Go p e below s cm sm Q T (mkF m pt Ls St)) (kF : 0 < x → Go p e below s cm sm Q T (mkF m pf Ls St)) : Go p e below s cm sm Q T (mkF m pc Ls (.int x :: St)) :=
  w_if0 X hx hd hf ho hp (fun h => kT (h_le.1 h)) (fun h => kF (h_le.2 h))
theorem w_ifL_le (X : Stand p l e R s m args below meth c T locs cells slots) (hx : p.tables.exec = Jvm.exec) {x y : Int64} {o : Int} {pt pf : Nat} (hd : decode c.code pc = .ok (.ifCond .le o, 3)) (hf : pc + 3 = pf) (ho : 0 ≤ (pc : Int) + o) (hp : ((pc : Int) + o).toNat = pt)
    (kT : ¬ (y < x) → Go p e below s cm sm Q T (mkF m pt Ls St)) (kF : y < x → Go p e below s cm sm Q T (mkF m pf Ls St)) : Go p e below s cm sm Q T (mkF m pc Ls (.int (lcmpW x y) :: St)) :=
  w_if_le X hx hd hf ho hp (fun q => kT (fun r => q ((lw_gt x y).2 r))) (fun q => kF ((lw_gt x y).1 q))
theorem w_icmp_eq (X : Stand p l e R s m args below meth c T locs cells slots) (hx : p.tables.exec = Jvm.exec) {x y : Int32} {o : Int} {pt pf : Nat} (hd : decode c.code pc = .ok (.if_icmp .eq o, 3)) (hf : pc + 3 = pf) (ho : 0 ≤ (pc : Int) + o) (hp : ((pc : Int) + o).toNat = pt)
    (kT : x = y → Go p e below s cm sm Q T (mkF m pt Ls St)) (kF : ¬ (x = y) → Go p e below s cm sm Q T (mkF m pf Ls St)) : Go p e below s cm sm Q T (mkF m pc Ls (.int y :: .int x :: St)) :=
  w_icmp0 X hx hd hf ho hp (fun h => kT (h_eq.1 h)) (fun h => kF (h_eq.2 h))
theorem w_if_eq (X : Stand p l e R s m args below meth c T locs cells slots) (hx : p.tables.exec = Jvm.exec) {x : Int32} {o : Int} {pt pf : Nat} (hd : decode c.code pc = .ok (.ifCond .eq o, 3)) (hf : pc + 3 = pf) (ho : 0 ≤ (pc : Int) + o) (hp : ((pc : Int) + o).toNat = pt)
    (kT : x = 0 → Go p e below s cm sm Q T (mkF m pt Ls St)) (kF : ¬ (x = 0) → Go p e below s cm sm Q T (mkF m pf Ls St)) : Go p e below s cm sm Q T (mkF m pc Ls (.int x :: St)) :=
  w_if0 X hx hd hf ho hp (fun h => kT (h_eq.1 h)) (fun h => kF (h_eq.2 h))
theorem w_ifL_eq (X : Stand p l e R s m args below meth c T locs cells slots) (hx : p.tables.exec = Jvm.exec) {x y : Int64} {o : Int} {pt pf : Nat} (hd : decode c.code pc = .ok (.ifCond .eq o, 3)) (hf : pc + 3 = pf) (ho : 0 ≤ (pc : Int) + o) (hp : ((pc : Int) + o).toNat = pt)
    (kT : x = y → Go p e below s cm sm Q T (mkF m pt Ls St)) (kF : ¬ (x = y) → Go p e below s cm sm Q T (mkF m pf Ls St)) : Go p e below s cm sm Q T (mkF m pc Ls (.int (lcmpW x y) :: St)) :=
  w_if_eq X hx hd hf ho hp (fun q => kT ((lw_eq x y).1 q)) (fun q => kF (fun r => q ((lw_eq x y).2 r)))
theorem w_icmp_ne (X : Stand p l e R s m args below meth c T locs cells slots) (hx : p.tables.exec = Jvm.exec) {x y : Int32} {o : Int} {pt pf : Nat} (hd : decode c.code pc = .ok (.if_icmp .ne o, 3)) (hf : pc + 3 = pf) (ho : 0 ≤ (pc : Int) + o) (hp : ((pc : Int) + o).toNat = pt)
    (kT : ¬ (x = y) → Go p e below s cm sm Q T (mkF m pt Ls St)) (kF : x = y → Go p e below s cm sm Q T (mkF m pf Ls St)) : Go p e below s cm sm Q T (mkF m pc Ls (.int y :: .int x :: St)) :=
  w_icmp0 X hx hd hf ho hp (fun h => kT (h_ne.1 h)) (fun h => kF (h_ne.2 h))
theorem w_if_ne (X : Stand p l e R s m args below meth c T locs cells slots) (hx : p.tables.exec = Jvm.exec) {x : Int32} {o : Int} {pt pf : Nat} (hd : decode c.code pc = .ok (.ifCond .ne o, 3)) (hf : pc + 3 = pf) (ho : 0 ≤ (pc : Int) + o) (hp : ((pc : Int) + o).toNat = pt)
    (kT : ¬ (x = 0) → Go p e below s cm sm Q T (mkF m pt Ls St)) (kF : x = 0 → Go p e below s cm sm Q T (mkF m pf Ls St)) : Go p e below s cm sm Q T (mkF m pc Ls (.int x :: St)) :=
  w_if0 X hx hd hf ho hp (fun h => kT (h_ne.1 h)) (fun h => kF (h_ne.2 h))
theorem w_ifL_ne (X : Stand p l e R s m args below meth c T locs cells slots) (hx : p.tables.exec = Jvm.exec) {x y : Int64} {o : Int} {pt pf : Nat} (hd : decode c.code pc = .ok (.ifCond .ne o, 3)) (hf : pc + 3 = pf) (ho : 0 ≤ (pc : Int) + o) (hp : ((pc : Int) + o).toNat = pt)
    (kT : ¬ (x = y) → Go p e below s cm sm Q T (mkF m pt Ls St)) (kF : x = y → Go p e below s cm sm Q T (mkF m pf Ls St)) : Go p e below s cm sm Q T (mkF m pc Ls (.int (lcmpW x y) :: St)) :=
  w_if_ne X hx hd hf ho hp (fun q => kT (fun r => q ((lw_eq x y).2 r))) (fun q => kF ((lw_eq x y).1 q))
theorem w_ldc (X : Stand p l e R s m args below meth c T locs cells slots) (hx : p.tables.exec = Jvm.exec) (hZ : Z.Warmed39 s.vm) {own : String} {index : Nat} {v : Int32} (hown : s.vm.findClass own = some m.cls) (w : (Jvm.Cond.constant own index v).before a0 Z = true) (hd : decode c.code pc = .ok (.ldc index, 2)) (hp : pc + 2 = pc')
    (kk : Go p e below s cm sm Q T (mkF m pc' Ls (.int v :: St))) : Go p e below s cm sm Q T (mkF m pc Ls St) := by
  subst hp
  exact Go.st (fun t q => X.ldcInt hx hown (mvT hZ w) (g := mkF m pc Ls St) rfl hd t q) kk
theorem w_ldcw (X : Stand p l e R s m args below meth c T locs cells slots) (hx : p.tables.exec = Jvm.exec) (hZ : Z.Warmed39 s.vm) {own : String} {index : Nat} {v : Int32} (hown : s.vm.findClass own = some m.cls) (w : (Jvm.Cond.constant own index v).before a0 Z = true) (hd : decode c.code pc = .ok (.ldc_w index, 3)) (hp : pc + 3 = pc')
    (kk : Go p e below s cm sm Q T (mkF m pc' Ls (.int v :: St))) : Go p e below s cm sm Q T (mkF m pc Ls St) := by
  subst hp
  exact Go.st (fun t q => X.ldcWI hx hown (mvT hZ w) (g := mkF m pc Ls St) rfl hd q) kk
theorem w_ldc2 (X : Stand p l e R s m args below meth c T locs cells slots) (hx : p.tables.exec = Jvm.exec) (hZ : Z.Warmed39 s.vm) {own : String} {index : Nat} {v : Int64} (hown : s.vm.findClass own = some m.cls) (w : (Jvm.Cond.constantLong own index v).before a0 Z = true) (hd : decode c.code pc = .ok (.ldc2_w index, 3)) (hp : pc + 3 = pc')
    (kk : Go p e below s cm sm Q T (mkF m pc' Ls (.long v :: St))) : Go p e below s cm sm Q T (mkF m pc Ls St) := by
  subst hp
  exact Go.st (fun t q => X.ldc2Long hx hown (mvT hZ w) (g := mkF m pc Ls St) rfl hd t q) kk
theorem w_retZ (X : Stand p l e R s m args below meth c T locs cells slots) (hx : p.tables.exec = Jvm.exec) (hret : meth.sig.returnType = some .boolean) (hlk : meth.locks = false) {z : Int32} (hd : decode c.code pc = .ok (.ireturn, 1)) (hc : cells ≤ cm) (hs : slots ≤ sm) (hQ : Q (some (.int (nar .boolean z))) T.heap locs) : Go p e below s cm sm Q T (mkF m pc Ls (.int z :: St)) := by
  obtain ⟨fs, hr, hrun, hended, hW, hsame⟩ := X.leave (v := some (.int (nar .boolean z))) (fun h => by rw [hret] at h; cases h) hlk
  exact ⟨_, _, retN X hx (t := .boolean) hret (by simp) hd hr, hrun, hended, _, _, rfl, hQ, ⟨_, rfl⟩, hW, hsame.mono hc hs⟩
theorem w_retB (X : Stand p l e R s m args below meth c T locs cells slots) (hx : p.tables.exec = Jvm.exec) (hret : meth.sig.returnType = some .byte) (hlk : meth.locks = false) {z : Int32} (hd : decode c.code pc = .ok (.ireturn, 1)) (hc : cells ≤ cm) (hs : slots ≤ sm) (hQ : Q (some (.int (nar .byte z))) T.heap locs) : Go p e below s cm sm Q T (mkF m pc Ls (.int z :: St)) := by
  obtain ⟨fs, hr, hrun, hended, hW, hsame⟩ := X.leave (v := some (.int (nar .byte z))) (fun h => by rw [hret] at h; cases h) hlk
  exact ⟨_, _, retN X hx (t := .byte) hret (by simp) hd hr, hrun, hended, _, _, rfl, hQ, ⟨_, rfl⟩, hW, hsame.mono hc hs⟩
theorem w_retC (X : Stand p l e R s m args below meth c T locs cells slots) (hx : p.tables.exec = Jvm.exec) (hret : meth.sig.returnType = some .char) (hlk : meth.locks = false) {z : Int32} (hd : decode c.code pc = .ok (.ireturn, 1)) (hc : cells ≤ cm) (hs : slots ≤ sm) (hQ : Q (some (.int (nar .char z))) T.heap locs) : Go p e below s cm sm Q T (mkF m pc Ls (.int z :: St)) := by
  obtain ⟨fs, hr, hrun, hended, hW, hsame⟩ := X.leave (v := some (.int (nar .char z))) (fun h => by rw [hret] at h; cases h) hlk
  exact ⟨_, _, retN X hx (t := .char) hret (by simp) hd hr, hrun, hended, _, _, rfl, hQ, ⟨_, rfl⟩, hW, hsame.mono hc hs⟩
theorem w_retS (X : Stand p l e R s m args below meth c T locs cells slots) (hx : p.tables.exec = Jvm.exec) (hret : meth.sig.returnType = some .short) (hlk : meth.locks = false) {z : Int32} (hd : decode c.code pc = .ok (.ireturn, 1)) (hc : cells ≤ cm) (hs : slots ≤ sm) (hQ : Q (some (.int (nar .short z))) T.heap locs) : Go p e below s cm sm Q T (mkF m pc Ls (.int z :: St)) := by
  obtain ⟨fs, hr, hrun, hended, hW, hsame⟩ := X.leave (v := some (.int (nar .short z))) (fun h => by rw [hret] at h; cases h) hlk
  exact ⟨_, _, retN X hx (t := .short) hret (by simp) hd hr, hrun, hended, _, _, rfl, hQ, ⟨_, rfl⟩, hW, hsame.mono hc hs⟩
theorem w_retI (X : Stand p l e R s m args below meth c T locs cells slots) (hx : p.tables.exec = Jvm.exec) (hret : meth.sig.returnType = some .int) (hlk : meth.locks = false) {z : Int32} (hd : decode c.code pc = .ok (.ireturn, 1)) (hc : cells ≤ cm) (hs : slots ≤ sm) (hQ : Q (some (.int z)) T.heap locs) : Go p e below s cm sm Q T (mkF m pc Ls (.int z :: St)) := by
  obtain ⟨fs, hr, hrun, hended, hW, hsame⟩ := X.leave (v := some (.int z)) (fun h => by rw [hret] at h; cases h) hlk
  refine ⟨T.setFrames fs, _, ?_, hrun, hended, _, _, rfl, hQ, ⟨_, rfl⟩, hW, hsame.mono hc hs⟩
  have hm' : T.vm.method? m = some meth := X.method'
  have hn : narrow .int (.int z) = .int z := rfl
  show Steps p.tables e below (T.setTop { method := m, pc := pc, locals := Ls, stack := .int z :: St, locked := none }) _
  jvm_step X.here [X.here.top, hx, hd, hm', hret, hn]
  first | (intro acts; rw [hr _ acts rfl rfl rfl]) | rw [hr _ _ rfl rfl rfl]
  exact Steps.refl _
theorem w_retJ (X : Stand p l e R s m args below meth c T locs cells slots) (hx : p.tables.exec = Jvm.exec) (hret : meth.sig.returnType = some .long) (hlk : meth.locks = false) {z : Int64} (hd : decode c.code pc = .ok (.lreturn, 1)) (hc : cells ≤ cm) (hs : slots ≤ sm) (hQ : Q (some (.long z)) T.heap locs) : Go p e below s cm sm Q T (mkF m pc Ls [.long z]) := by
  obtain ⟨fs, hr, hrun, hended, hW, hsame⟩ := X.leave (v := some (.long z)) (fun h => by rw [hret] at h; cases h) hlk
  exact ⟨T.setFrames fs, _, X.lreturnOut hx hret hd hr, hrun, hended, _, _, rfl, hQ, ⟨_, rfl⟩, hW, hsame.mono hc hs⟩
theorem w_retV (X : Stand p l e R s m args below meth c T locs cells slots) (hx : p.tables.exec = Jvm.exec) (hret : meth.sig.returnType = none) (hlk : meth.locks = false) (hd : decode c.code pc = .ok (.return_, 1)) (hc : cells ≤ cm) (hs : slots ≤ sm) (hQ : Q none T.heap locs) : Go p e below s cm sm Q T (mkF m pc Ls []) := by
  obtain ⟨fs, hr, hrun, hended, hW, hsame⟩ := X.leave (v := none) (fun _ => rfl) hlk
  exact ⟨T.setFrames fs, _, X.returnOut hx hret hd hr, hrun, hended, _, _, rfl, hQ, ⟨_, rfl⟩, hW, hsame.mono hc hs⟩
theorem w_retA (X : Stand p l e R s m args below meth c T locs cells slots) (hx : p.tables.exec = Jvm.exec) {rt : FieldType} (hret : meth.sig.returnType = some rt) (hrt : rt.isReference = true) (hlk : meth.locks = false) {a : Addr} (hd : decode c.code pc = .ok (.areturn, 1)) (hc : cells ≤ cm) (hs : slots ≤ sm) (hQ : Q (some (.ref a)) T.heap locs) : Go p e below s cm sm Q T (mkF m pc Ls (.ref a :: St)) := by
  obtain ⟨fs, hr, hrun, hended, hW, hsame⟩ := X.leave (v := some (.ref a)) (fun h => by rw [hret] at h; cases h) hlk
  refine ⟨T.setFrames fs, _, ?_, hrun, hended, _, _, rfl, hQ, ⟨_, rfl⟩, hW, hsame.mono hc hs⟩
  have hm' : T.vm.method? m = some meth := X.method'
  show Steps p.tables e below (T.setTop { method := m, pc := pc, locals := Ls, stack := .ref a :: St, locked := none }) _
  jvm_step X.here [X.here.top, hx, hd, hm', hret, Value.isRef, hrt]
  first | (intro acts; rw [hr _ acts rfl rfl rfl]) | rw [hr _ _ rfl rfl rfl]
  exact Steps.refl _
theorem Con.back {y : MethodName} {bytes : ByteArray} {maxL : Nat} {ret : Option FieldType} {rm : Room} {len W : Nat} {as' : Array Value} {Qc : Option Value → Heap → List Loc → Prop} (C : Con l Z y bytes maxL ret rm as' h Qc) (hZ : Z.Warmed39 s.vm) (wc : (Jvm.Cond.code y bytes maxL ret).before a0 Z = true) (wz : (Jvm.Cond.initialized y.cls).before a0 Z = true) (hf : rm.frames + 1 ≤ R.frames) (hl : W + (maxL + 11) + rm.locals ≤ R.locals) :
    Back l R p e below s args y len W (fun A a => a = as' ∧ A.U.heap = h ∧ A.cells + rm.cells ≤ R.cells ∧ A.slots + rm.slots ≤ R.slots) (fun A _ v B => ∃ L, Qc v B.U.heap L ∧ B.locs = A.locs ++ L ∧ B.cells = A.cells + rm.cells ∧ B.slots = A.slots + rm.slots) :=
  backOf (C []) hZ wc wz hf hl
theorem w_callS (X : Stand p l e R s m args below meth c T locs cells slots) (hx : p.tables.exec = Jvm.exec) (hZ : Z.Warmed39 s.vm) {own : String} {index : Nat} {y : MethodName} {bytes : ByteArray} {maxL : Nat} {ret : Option FieldType} {rm : Room} {W : Nat} {argsL rest : List Value} {Qc : Option Value → Heap → List Loc → Prop} (hown : s.vm.findClass own = some m.cls) (eT : T.heap = h) (C : Con l Z y bytes maxL ret rm argsL.toArray h Qc) (w1 : (Jvm.Cond.methodLink own index y).before a0 Z = true) (w2 : (Jvm.Cond.static y).before a0 Z = true) (w3 : (Jvm.Cond.initialized y.cls).before a0 Z = true) (w4 : (Jvm.Cond.code y bytes maxL ret).before a0 Z = true) (hy : y.cls ≠ "java/lang/invoke/MethodHandle" ∧ y.cls ≠ "java/lang/invoke/VarHandle")
    (hf : rm.frames + 1 ≤ R.frames) (hl : W + (maxL + 11) + rm.locals ≤ R.locals) (hc : cells + rm.cells ≤ R.cells) (hs : slots + rm.slots ≤ R.slots) (hsz : Ls.size = c.maxLocals) (hlen : ∀ sig, parseMethodDescriptor y.desc = some sig → argsL.length = sig.parameters.length) (hW : (rest.map fun v => v.category).sum ≤ W) (hst : St = argsL.reverse ++ rest) (hd : decode c.code pc = .ok (.invokestatic index, 3)) (hp : pc + 3 = pc')
    (kk : ∀ (T' : State) (L : List Loc) (v : Option Value), Stand p l e R s m args below meth c T' (locs ++ L) (cells + rm.cells) (slots + rm.slots) → Qc v T'.heap L → Go p e below s cm sm Q T' (mkF m pc' Ls (v.toList ++ rest))) : Go p e below s cm sm Q T (mkF m pc Ls St) := by
  subst hp hst
  obtain ⟨v, _, ⟨T1, L1, k1, n1⟩, -, X1, ⟨Lc, hQ, l1, y1, z1⟩, st⟩ := Jvm.LawKit.callS X hx (y := y) hown (mvT hZ w1) (mvT hZ w2) (mvT hZ w3) (mvT hZ w4) hy (C.back (W := W) hZ w4 w3 hf hl) (g := mkF m pc Ls (argsL.reverse ++ rest)) rfl hsz (argsL := argsL) (rest := rest) hlen rfl (by show 2 * 0 + _ ≤ _; rw [Nat.mul_zero, Nat.zero_add]; exact hW) hd (fun _ _ => ⟨rfl, eT, hc, hs⟩)
  dsimp only [Pt.U, Pt.locs, Pt.cells, Pt.slots] at X1 l1 y1 z1 st hQ
  subst l1 y1 z1
  exact Go.st st (kk _ _ _ X1 hQ)
theorem w_callI (X : Stand p l e R s m args below meth c T locs cells slots) (hx : p.tables.exec = Jvm.exec) (hZ : Z.Warmed39 s.vm) {own : String} {index : Nat} {y : MethodName} {bytes : ByteArray} {maxL : Nat} {rm : Room} {W : Nat} {argsL rest : List Value} {Qc : Option Value → Heap → List Loc → Prop} {a : Addr} (hown : s.vm.findClass own = some m.cls) (eT : T.heap = h) (C : Con l Z y bytes maxL none rm (.ref a :: argsL).toArray h Qc) (hn : y.name = "<init>") (w1 : (Jvm.Cond.methodLink own index y).before a0 Z = true) (w2 : (Jvm.Cond.instanceMethod y).before a0 Z = true) (w3 : (Jvm.Cond.initialized y.cls).before a0 Z = true) (w4 : (Jvm.Cond.code y bytes maxL none).before a0 Z = true) (hy : y.cls ≠ "java/lang/invoke/MethodHandle" ∧ y.cls ≠ "java/lang/invoke/VarHandle")
    (hf : rm.frames + 1 ≤ R.frames) (hl : W + (maxL + 11) + rm.locals ≤ R.locals) (hc : cells + rm.cells ≤ R.cells) (hs : slots + rm.slots ≤ R.slots) (hsz : Ls.size = c.maxLocals) (hlen : ∀ sig, parseMethodDescriptor y.desc = some sig → argsL.length = sig.parameters.length) (hW : (rest.map fun v => v.category).sum ≤ W) (hst : St = argsL.reverse ++ .ref a :: rest) (hd : decode c.code pc = .ok (.invokespecial index, 3)) (hp : pc + 3 = pc')
    (kk : ∀ (T' : State) (L : List Loc) (v : Option Value), Stand p l e R s m args below meth c T' (locs ++ L) (cells + rm.cells) (slots + rm.slots) → Qc v T'.heap L → Go p e below s cm sm Q T' (mkF m pc' Ls (v.toList ++ rest))) : Go p e below s cm sm Q T (mkF m pc Ls St) := by
  subst hp hst
  obtain ⟨v, _, ⟨T1, L1, k1, n1⟩, -, X1, ⟨Lc, hQ, l1, y1, z1⟩, st⟩ := X.specialBack hx (y := y) hn hown (mvT hZ w1) (mvT hZ w2) (mvT hZ w4) hy (C.back (W := W) hZ w4 w3 hf hl) (g := mkF m pc Ls (argsL.reverse ++ .ref a :: rest)) rfl hsz (Steps.refl _) (a := a) (argsL := argsL) (rest := rest) hlen rfl (by show 2 * 0 + _ ≤ _; rw [Nat.mul_zero, Nat.zero_add]; exact hW) hd (fun _ _ => ⟨rfl, eT, hc, hs⟩)
  dsimp only [Pt.U, Pt.locs, Pt.cells, Pt.slots] at X1 l1 y1 z1 st hQ
  subst l1 y1 z1
  exact Go.st (fun t q => st.trans q) (kk _ _ _ X1 hQ)
theorem w_callV (X : Stand p l e R s m args below meth c T locs cells slots) (hx : p.tables.exec = Jvm.exec) (hZ : Z.Warmed39 s.vm) {own : String} {index : Nat} {y : MethodName} {bytes : ByteArray} {maxL : Nat} {ret : Option FieldType} {rm : Room} {W : Nat} {argsL rest : List Value} {Qc : Option Value → Heap → List Loc → Prop} {a : Addr} (hown : s.vm.findClass own = some m.cls) (eT : T.heap = h) (E : Exa Z h a y.cls) (C : Con l Z y bytes maxL ret rm (.ref a :: argsL).toArray h Qc) (w1 : (Jvm.Cond.methodLink own index y).before a0 Z = true) (wd : (Jvm.Cond.declares y).before a0 Z = true) (ws : (Jvm.Cond.selects y.cls y y).before a0 Z = true) (w2 : (Jvm.Cond.instanceMethod y).before a0 Z = true) (w3 : (Jvm.Cond.initialized y.cls).before a0 Z = true) (w4 : (Jvm.Cond.code y bytes maxL ret).before a0 Z = true) (hy : y.cls ≠ "java/lang/invoke/MethodHandle" ∧ y.cls ≠ "java/lang/invoke/VarHandle")
    (hf : rm.frames + 1 ≤ R.frames) (hl : W + (maxL + 11) + rm.locals ≤ R.locals) (hc : cells + rm.cells ≤ R.cells) (hs : slots + rm.slots ≤ R.slots) (hsz : Ls.size = c.maxLocals) (hlen : ∀ sig, parseMethodDescriptor y.desc = some sig → argsL.length = sig.parameters.length) (hW : (rest.map fun v => v.category).sum ≤ W) (hst : St = argsL.reverse ++ .ref a :: rest) (hd : decode c.code pc = .ok (.invokevirtual index, 3)) (hp : pc + 3 = pc')
    (kk : ∀ (T' : State) (L : List Loc) (v : Option Value), Stand p l e R s m args below meth c T' (locs ++ L) (cells + rm.cells) (slots + rm.slots) → Qc v T'.heap L → Go p e below s cm sm Q T' (mkF m pc' Ls (v.toList ++ rest))) : Go p e below s cm sm Q T (mkF m pc Ls St) := by
  subst hp hst
  obtain ⟨cq, kq, qa, qb, qc⟩ := isOf hZ eT E
  obtain ⟨v, _, ⟨T1, L1, k1, n1⟩, -, X1, ⟨Lc, hQ, l1, y1, z1⟩, st⟩ := X.virtualBack hx (y := y) (z := y) hown (mvT hZ w1) (mvT hZ wd) (notFace_of_selects (args := #[]) (mvT hZ ws)) (mvT hZ ws) (mvT hZ w2) hy (C.back (W := W) hZ w4 w3 hf hl) qa qc (g := mkF m pc Ls (argsL.reverse ++ .ref a :: rest)) rfl hsz (Steps.refl _) (argsL := argsL) (rest := rest) hlen rfl (by show 2 * 0 + _ ≤ _; rw [Nat.mul_zero, Nat.zero_add]; exact hW) hd (fun _ _ => ⟨rfl, eT, hc, hs⟩)
  dsimp only [Pt.U, Pt.locs, Pt.cells, Pt.slots] at X1 l1 y1 z1 st hQ
  subst l1 y1 z1
  exact Go.st (fun t q => st.trans q) (kk _ _ _ X1 hQ)
theorem w_initO (X : Stand p l e R s m args below meth c T locs cells slots) (hx : p.tables.exec = Jvm.exec) (hZ : Z.Warmed39 s.vm) {own : String} {index : Nat} {a : Addr} (hown : s.vm.findClass own = some m.cls) (eT : T.heap = h) (w1 : (Jvm.Cond.methodLink own index Lib.objectInit).before a0 Z = true) (w2 : (Jvm.Cond.instanceMethod Lib.objectInit).before a0 Z = true) (w3 : (Jvm.Cond.code Lib.objectInit ⟨#[0xb1]⟩ 1 none).before a0 Z = true) (hsz : Ls.size = c.maxLocals) (hd : decode c.code pc = .ok (.invokespecial index, 3)) (hf : 1 ≤ R.frames) {W : Nat} (hW : (St.map fun v => v.category).sum ≤ W) (hl : W + 12 ≤ R.locals) (hp : pc + 3 = pc')
    (kk : ∀ T' : State, Stand p l e R s m args below meth c T' locs cells slots → T'.heap = h → Go p e below s cm sm Q T' (mkF m pc' Ls St)) : Go p e below s cm sm Q T (mkF m pc Ls (.ref a :: St)) := by
  subst hp
  obtain ⟨T1, X1, e1, st⟩ := initO X hx hZ hown w1 w2 w3 eT (g := mkF m pc Ls (.ref a :: St)) rfl hsz rfl hd hf (W := W) (by show 2 * 0 + _ ≤ _; rw [Nat.mul_zero, Nat.zero_add]; exact hW) hl
  exact Go.st st (kk _ X1 e1)
theorem w_getF (X : Stand p l e R s m args below meth c T locs cells slots) (hx : p.tables.exec = Jvm.exec) (hZ : Z.Warmed39 s.vm) {own O n d : String} {index : Nat} {a : Addr} {v : Value} (hown : s.vm.findClass own = some m.cls) (eT : T.heap = h) (F : Fld Z h a O n d v) (w : (Jvm.Cond.fieldLink own index O n d).before a0 Z = true) (hd : decode c.code pc = .ok (.getfield index, 3)) (hp : pc + 3 = pc')
    (kk : ∀ T' : State, Stand p l e R s m args below meth c T' locs cells slots → T'.heap = h → Go p e below s cm sm Q T' (mkF m pc' Ls (v :: St))) : Go p e below s cm sm Q T (mkF m pc Ls (.ref a :: St)) := by
  subst hp
  obtain ⟨T1, X1, e1, st⟩ := getF X hx hZ hown (host := "") (Or.inl w) Via.refl eT F (g := mkF m pc Ls (.ref a :: St)) rfl rfl hd
  exact Go.st st (kk _ X1 e1)
theorem w_putF (X : Stand p l e R s m args below meth c T locs cells slots) (hx : p.tables.exec = Jvm.exec) (hZ : Z.Warmed39 s.vm) {own O n d C : String} {index kn : Nat} {ty : FieldType} {a : Addr} {v old : Value} (hown : s.vm.findClass own = some m.cls) (eT : T.heap = h) (F : Fld Z h a O n d old) (E : Exa Z h a C) (w : (Jvm.Cond.fieldLink own index O n d).before a0 Z = true) (L : (Jvm.Cond.lays C O n d).before a0 Z = true ∨ ((Jvm.Cond.laysFinal C O n d).before a0 Z = true ∧ own = O ∧ meth.name = "<init>")) (wi : (Jvm.Cond.instantiable C kn).before a0 Z = true) (hty : parseFieldDescriptor d = some ty) (hn : narrow ty v = v) (hf : fits ty v = true) (hd : decode c.code pc = .ok (.putfield index, 3)) (hp : pc + 3 = pc')
    (kk : ∀ (T' : State) (h' : Heap), Stand p l e R s m args below meth c T' (locs ++ [⟨a, RoadKit.slotOf Z O n d⟩]) cells slots → T'.heap = h' → Wr h h' a (RoadKit.slotOf Z O n d) v → Go p e below s cm sm Q T' (mkF m pc' Ls St)) : Go p e below s cm sm Q T (mkF m pc Ls (v :: .ref a :: St)) := by
  subst hp
  obtain ⟨T1, h1, X1, e1, W1, st⟩ := putF X hx hZ hown (host := "") (Or.inl w) Via.refl eT F E L wi hty hn hf (g := mkF m pc Ls (v :: .ref a :: St)) rfl rfl hd
  exact Go.st st (kk _ _ X1 e1 W1)
theorem w_newO (X : Stand p l e R s m args below meth c T locs cells slots) (hx : p.tables.exec = Jvm.exec) (hZ : Z.Warmed39 s.vm) {own C : String} {index kn : Nat} (hown : s.vm.findClass own = some m.cls) (eT : T.heap = h) (w : (Jvm.Cond.classLink own index C).before a0 Z = true) (wi : (Jvm.Cond.instantiable C kn).before a0 Z = true) (wz : (Jvm.Cond.initialized C).before a0 Z = true) (hd : decode c.code pc = .ok (.new index, 3)) (hc : cells + 1 ≤ R.cells) (hl : slots + kn ≤ R.slots) (hp : pc + 3 = pc')
    (kk : ∀ (T' : State) (h' : Heap) (b : Addr), Stand p l e R s m args below meth c T' locs (cells + 1) (slots + kn) → T'.heap = h' → Ext h h' → b = h.size → Exa Z h' b C → (∀ {O nm d : String} {ty : FieldType}, Laid Z a0 C O nm d → parseFieldDescriptor d = some ty → Fld Z h' b O nm d (defaultValue ty)) → Go p e below s cm sm Q T' (mkF m pc' Ls (.ref b :: St))) : Go p e below s cm sm Q T (mkF m pc Ls St) := by
  subst hp
  obtain ⟨T1, h1, X1, e1, E1, A1, D1, -, st⟩ := newO X hx hZ hown w wi wz eT (g := mkF m pc Ls St) rfl hd hc hl
  exact Go.st st (kk _ _ _ X1 e1 E1 rfl A1 D1)
/-- an array of ints, bytes, chars, shorts or booleans, by its list -/
def AI (Z : State) (h : Heap) (a : Addr) (ty : FieldType) (vs : List Int32) : Prop := ∃ c : Cell, Arr Z h a c ty ∧ c.slots.toList = vs.map Value.int ∧ vs.length < 2147483648
/-- an array of longs, by its list -/
def AJ (Z : State) (h : Heap) (a : Addr) (vs : List Int64) : Prop := ∃ c : Cell, Arr Z h a c .long ∧ c.slots.toList = vs.map Value.long ∧ vs.length < 2147483648
theorem AI.lt {a : Addr} {ty : FieldType} {vs : List Int32} (F : AI Z h a ty vs) : a < h.size := by obtain ⟨c, q, -⟩ := F; exact q.lt
theorem AI.ext {a : Addr} {ty : FieldType} {vs : List Int32} (F : AI Z h a ty vs) (E : Ext h h') : AI Z h' a ty vs := by obtain ⟨c, q, r⟩ := F; exact ⟨c, q.ext E, r⟩
theorem AI.other {a b : Addr} {ty : FieldType} {vs : List Int32} {sl : Nat} {v : Value} (F : AI Z h a ty vs) (W : Wr h h' b sl v) (q : a ≠ b) : AI Z h' a ty vs := by obtain ⟨c, A, r⟩ := F; exact ⟨c, A.other W q, r⟩
theorem AI.keep {a : Addr} {ty : FieldType} {vs : List Int32} {ws : List Addr} (F : AI Z h a ty vs) (K : Keep h h' ws) (q : a ∉ ws) : AI Z h' a ty vs := by obtain ⟨c, A, r⟩ := F; exact ⟨c, ⟨K.2.1 a c A.1 q, A.2⟩, r⟩
theorem AI.new {a : Addr} {k : ClassId} {z : Int32} {ty : FieldType} (A : Arr Z h a (newA k ty z) ty) (hd : defaultValue ty = .int 0) : AI Z h a ty (List.replicate z.toNatClampNeg 0) := by
  refine ⟨_, A, ?_, ?_⟩
  · simp [newA, hd]
  · have := z.toInt_lt; rw [List.length_replicate]; show z.toInt.toNat < _; omega
theorem AI.wr {a : Addr} {ty : FieldType} {vs : List Int32} {j : Nat} {x : Int32} (F : AI Z h a ty vs) (W : Wr h h' a j (Value.int x)) : AI Z h' a ty (vs.set j x) := by
  obtain ⟨c, A, q, r⟩ := F
  refine ⟨_, A.same W, ?_, by simpa using r⟩
  simp [Cell.setSlot, q, List.map_set]
theorem AI.len {a : Addr} {ty : FieldType} {vs : List Int32} (F : AI Z h a ty vs) : vs.length < 2147483648 := by obtain ⟨c, q, r, t⟩ := F; exact t
theorem AI.sz {vs : List Int32} {c : Cell} (q : c.slots.toList = vs.map Value.int) : c.slots.size = vs.length := by
  have := congrArg List.length q; simpa using this
theorem AI.at {vs : List Int32} {c : Cell} {j : Nat} {x : Int32} (q : c.slots.toList = vs.map Value.int) (hv : vs[j]? = some x) : c.slots[j]? = some (Value.int x) := by
  rw [← Array.getElem?_toList, q]; simp [hv]
theorem AI.inb {vs : List Int32} {c : Cell} {j : Int32} (q : c.slots.toList = vs.map Value.int) (hj : ¬ j < 0) (hl : j.toNatClampNeg < vs.length) : ¬ (j < 0 ∨ c.slots.size ≤ j.toNatClampNeg) := by
  have := AI.sz q
  rw [this]
  rintro (r | r)
  · exact hj r
  · omega
theorem AJ.lt {a : Addr} {vs : List Int64} (F : AJ Z h a vs) : a < h.size := by obtain ⟨c, q, -⟩ := F; exact q.lt
theorem AJ.ext {a : Addr} {vs : List Int64} (F : AJ Z h a vs) (E : Ext h h') : AJ Z h' a vs := by obtain ⟨c, q, r⟩ := F; exact ⟨c, q.ext E, r⟩
theorem AJ.other {a b : Addr} {vs : List Int64} {sl : Nat} {v : Value} (F : AJ Z h a vs) (W : Wr h h' b sl v) (q : a ≠ b) : AJ Z h' a vs := by obtain ⟨c, A, r⟩ := F; exact ⟨c, A.other W q, r⟩
theorem AJ.keep {a : Addr} {vs : List Int64} {ws : List Addr} (F : AJ Z h a vs) (K : Keep h h' ws) (q : a ∉ ws) : AJ Z h' a vs := by obtain ⟨c, A, r⟩ := F; exact ⟨c, ⟨K.2.1 a c A.1 q, A.2⟩, r⟩
theorem AJ.new {a : Addr} {k : ClassId} {z : Int32} (A : Arr Z h a (newA k .long z) .long) : AJ Z h a (List.replicate z.toNatClampNeg 0) := by
  refine ⟨_, A, ?_, ?_⟩
  · simp [newA, defaultValue]
  · have := z.toInt_lt; rw [List.length_replicate]; show z.toInt.toNat < _; omega
theorem AJ.wr {a : Addr} {vs : List Int64} {j : Nat} {x : Int64} (F : AJ Z h a vs) (W : Wr h h' a j (Value.long x)) : AJ Z h' a (vs.set j x) := by
  obtain ⟨c, A, q, r⟩ := F
  refine ⟨_, A.same W, ?_, by simpa using r⟩
  simp [Cell.setSlot, q, List.map_set]
theorem AJ.len {a : Addr} {vs : List Int64} (F : AJ Z h a vs) : vs.length < 2147483648 := by obtain ⟨c, q, r, t⟩ := F; exact t
theorem AJ.sz {vs : List Int64} {c : Cell} (q : c.slots.toList = vs.map Value.long) : c.slots.size = vs.length := by
  have := congrArg List.length q; simpa using this
theorem AJ.at {vs : List Int64} {c : Cell} {j : Nat} {x : Int64} (q : c.slots.toList = vs.map Value.long) (hv : vs[j]? = some x) : c.slots[j]? = some (Value.long x) := by
  rw [← Array.getElem?_toList, q]; simp [hv]
theorem AJ.inb {vs : List Int64} {c : Cell} {j : Int32} (q : c.slots.toList = vs.map Value.long) (hj : ¬ j < 0) (hl : j.toNatClampNeg < vs.length) : ¬ (j < 0 ∨ c.slots.size ≤ j.toNatClampNeg) := by
  have := AJ.sz q
  rw [this]
  rintro (r | r)
  · exact hj r
  · omega
theorem w_iaload (X : Stand p l e R s m args below meth c T locs cells slots) (hx : p.tables.exec = Jvm.exec) (hZ : Z.Warmed39 s.vm) {a : Addr} {vs : List Int32} {j : Int32} {v : Int32} (eT : T.heap = h) (F : AI Z h a .int vs) (hj : ¬ j < 0) (hv : vs[j.toNatClampNeg]? = some v) (hd : decode c.code pc = .ok (.iaload, 1)) (hp : pc + 1 = pc')
    (kk : Go p e below s cm sm Q T (mkF m pc' Ls (Value.int v :: St))) : Go p e below s cm sm Q T (mkF m pc Ls (.int j :: .ref a :: St)) := by
  subst hp
  obtain ⟨cl, A, q, r⟩ := F
  exact Go.st (fun t k => X.iaload hx (j := j) (v := Value.int v) (by rw [eT]; exact A.1) (State.isArrayOf_alike hZ.alike A.2.1) A.2.2 (AI.inb q hj (List.getElem?_eq_some_iff.mp hv).1) (AI.at q hv) (g := mkF m pc Ls (.int j :: .ref a :: St)) rfl rfl hd t k) kk
theorem w_baload (X : Stand p l e R s m args below meth c T locs cells slots) (hx : p.tables.exec = Jvm.exec) (hZ : Z.Warmed39 s.vm) {a : Addr} {vs : List Int32} {j : Int32} {v : Int32} (eT : T.heap = h) (F : AI Z h a .byte vs) (hj : ¬ j < 0) (hv : vs[j.toNatClampNeg]? = some v) (hd : decode c.code pc = .ok (.baload, 1)) (hp : pc + 1 = pc')
    (kk : Go p e below s cm sm Q T (mkF m pc' Ls (Value.int v :: St))) : Go p e below s cm sm Q T (mkF m pc Ls (.int j :: .ref a :: St)) := by
  subst hp
  obtain ⟨cl, A, q, r⟩ := F
  exact Go.st (fun t k => X.baloadBytes hx (j := j) (v := Value.int v) (by rw [eT]; exact A.1) (State.isArrayOf_alike hZ.alike A.2.1) A.2.2 (AI.inb q hj (List.getElem?_eq_some_iff.mp hv).1) (AI.at q hv) (g := mkF m pc Ls (.int j :: .ref a :: St)) rfl rfl hd t k) kk
theorem w_laload (X : Stand p l e R s m args below meth c T locs cells slots) (hx : p.tables.exec = Jvm.exec) (hZ : Z.Warmed39 s.vm) {a : Addr} {vs : List Int64} {j : Int32} {v : Int64} (eT : T.heap = h) (F : AJ Z h a vs) (hj : ¬ j < 0) (hv : vs[j.toNatClampNeg]? = some v) (hd : decode c.code pc = .ok (.laload, 1)) (hp : pc + 1 = pc')
    (kk : Go p e below s cm sm Q T (mkF m pc' Ls (Value.long v :: St))) : Go p e below s cm sm Q T (mkF m pc Ls (.int j :: .ref a :: St)) := by
  subst hp
  obtain ⟨cl, A, q, r⟩ := F
  exact Go.st (fun t k => X.laload hx (j := j) (v := Value.long v) (by rw [eT]; exact A.1) (State.isArrayOf_alike hZ.alike A.2.1) A.2.2 (AJ.inb q hj (List.getElem?_eq_some_iff.mp hv).1) (AJ.at q hv) (g := mkF m pc Ls (.int j :: .ref a :: St)) rfl rfl hd t k) kk
theorem w_iastore (X : Stand p l e R s m args below meth c T locs cells slots) (hx : p.tables.exec = Jvm.exec) (hZ : Z.Warmed39 s.vm) {a : Addr} {vs : List Int32} {j : Int32} {x : Int32} (eT : T.heap = h) (F : AI Z h a .int vs) (hj : ¬ j < 0) (hl : j.toNatClampNeg < vs.length) (hd : decode c.code pc = .ok (.iastore, 1)) (hp : pc + 1 = pc')
    (kk : ∀ (T' : State) (h' : Heap), Stand p l e R s m args below meth c T' (locs ++ [⟨a, j.toNatClampNeg⟩]) cells slots → T'.heap = h' → Wr h h' a j.toNatClampNeg (Value.int x) → AI Z h' a .int (vs.set j.toNatClampNeg x) → Go p e below s cm sm Q T' (mkF m pc' Ls St)) : Go p e below s cm sm Q T (mkF m pc Ls (Value.int x :: .int j :: .ref a :: St)) := by
  subst hp
  obtain ⟨cl, A, q, r⟩ := F
  obtain ⟨T1, h1, X1, e1, W1, st⟩ := RoadKit.stI X hx hZ eT A (j := j) (x := x) (AI.inb q hj hl) (g := mkF m pc Ls (Value.int x :: .int j :: .ref a :: St)) rfl rfl hd
  exact Go.st st (kk _ _ X1 e1 W1 (AI.wr ⟨cl, A, q, r⟩ W1))
theorem w_bastore (X : Stand p l e R s m args below meth c T locs cells slots) (hx : p.tables.exec = Jvm.exec) (hZ : Z.Warmed39 s.vm) {a : Addr} {vs : List Int32} {j : Int32} {x : Int32} (eT : T.heap = h) (F : AI Z h a .byte vs) (hj : ¬ j < 0) (hl : j.toNatClampNeg < vs.length) (hd : decode c.code pc = .ok (.bastore, 1)) (hp : pc + 1 = pc')
    (kk : ∀ (T' : State) (h' : Heap), Stand p l e R s m args below meth c T' (locs ++ [⟨a, j.toNatClampNeg⟩]) cells slots → T'.heap = h' → Wr h h' a j.toNatClampNeg (Value.int (nar .byte x)) → AI Z h' a .byte (vs.set j.toNatClampNeg (nar .byte x)) → Go p e below s cm sm Q T' (mkF m pc' Ls St)) : Go p e below s cm sm Q T (mkF m pc Ls (Value.int x :: .int j :: .ref a :: St)) := by
  subst hp
  obtain ⟨cl, A, q, r⟩ := F
  obtain ⟨T1, h1, X1, e1, W1, st⟩ := RoadKit.stB X hx hZ eT A (j := j) (x := x) (AI.inb q hj hl) (g := mkF m pc Ls (Value.int x :: .int j :: .ref a :: St)) rfl rfl hd
  exact Go.st st (kk _ _ X1 e1 W1 (AI.wr ⟨cl, A, q, r⟩ W1))
theorem w_lastore (X : Stand p l e R s m args below meth c T locs cells slots) (hx : p.tables.exec = Jvm.exec) (hZ : Z.Warmed39 s.vm) {a : Addr} {vs : List Int64} {j : Int32} {x : Int64} (eT : T.heap = h) (F : AJ Z h a vs) (hj : ¬ j < 0) (hl : j.toNatClampNeg < vs.length) (hd : decode c.code pc = .ok (.lastore, 1)) (hp : pc + 1 = pc')
    (kk : ∀ (T' : State) (h' : Heap), Stand p l e R s m args below meth c T' (locs ++ [⟨a, j.toNatClampNeg⟩]) cells slots → T'.heap = h' → Wr h h' a j.toNatClampNeg (Value.long x) → AJ Z h' a (vs.set j.toNatClampNeg x) → Go p e below s cm sm Q T' (mkF m pc' Ls St)) : Go p e below s cm sm Q T (mkF m pc Ls (Value.long x :: .int j :: .ref a :: St)) := by
  subst hp
  obtain ⟨cl, A, q, r⟩ := F
  obtain ⟨T1, h1, X1, e1, W1, st⟩ := RoadKit.stJ X hx hZ eT A (j := j) (x := x) (AJ.inb q hj hl) (g := mkF m pc Ls (Value.long x :: .int j :: .ref a :: St)) rfl rfl hd
  exact Go.st st (kk _ _ X1 e1 W1 (AJ.wr ⟨cl, A, q, r⟩ W1))
theorem w_alenI (X : Stand p l e R s m args below meth c T locs cells slots) (hx : p.tables.exec = Jvm.exec) (hZ : Z.Warmed39 s.vm) {a : Addr} {ty : FieldType} {vs : List Int32} {n : Int32} (eT : T.heap = h) (F : AI Z h a ty vs) (hn : vs.length.toInt32 = n) (hd : decode c.code pc = .ok (.arraylength, 1)) (hp : pc + 1 = pc')
    (kk : Go p e below s cm sm Q T (mkF m pc' Ls (.int n :: St))) : Go p e below s cm sm Q T (mkF m pc Ls (.ref a :: St)) := by
  subst hp hn
  obtain ⟨cl, A, q, r⟩ := F
  have hs := AI.sz q
  exact Go.st (fun t k => X.arraylength hx (by rw [eT]; exact A.1) (State.isArrayOf_alike hZ.alike A.2.1) (g := mkF m pc Ls (.ref a :: St)) rfl rfl hd t (by rw [hs]; exact k)) kk
theorem w_alenJ (X : Stand p l e R s m args below meth c T locs cells slots) (hx : p.tables.exec = Jvm.exec) (hZ : Z.Warmed39 s.vm) {a : Addr} {vs : List Int64} {n : Int32} (eT : T.heap = h) (F : AJ Z h a vs) (hn : vs.length.toInt32 = n) (hd : decode c.code pc = .ok (.arraylength, 1)) (hp : pc + 1 = pc')
    (kk : Go p e below s cm sm Q T (mkF m pc' Ls (.int n :: St))) : Go p e below s cm sm Q T (mkF m pc Ls (.ref a :: St)) := by
  subst hp hn
  obtain ⟨cl, A, q, r⟩ := F
  have hs := AJ.sz q
  exact Go.st (fun t k => X.arraylength hx (by rw [eT]; exact A.1) (State.isArrayOf_alike hZ.alike A.2.1) (g := mkF m pc Ls (.ref a :: St)) rfl rfl hd t (by rw [hs]; exact k)) kk
theorem w_newI (X : Stand p l e R s m args below meth c T locs cells slots) (hx : p.tables.exec = Jvm.exec) (hZ : Z.Warmed39 s.vm) {n : Int32} {cap : Nat} (eT : T.heap = h) (w : (Jvm.Cond.arrayClass .int).before a0 Z = true) (hn : ¬ n < 0) (hcap : n.toNatClampNeg ≤ cap) (hb : cap * 8 ≤ 536870912) (hc : cells + 1 ≤ R.cells) (hl : slots + cap ≤ R.slots) (hd : decode c.code pc = .ok (.newarray .int, 2)) (hp : pc + 2 = pc')
    (kk : ∀ (T' : State) (h' : Heap) (b : Addr), Stand p l e R s m args below meth c T' locs (cells + 1) (slots + cap) → T'.heap = h' → Ext h h' → b = h.size → AI Z h' b .int (List.replicate n.toNatClampNeg 0) → Go p e below s cm sm Q T' (mkF m pc' Ls (.ref b :: St))) : Go p e below s cm sm Q T (mkF m pc Ls (.int n :: St)) := by
  subst hp
  obtain ⟨T1, h1, k1, X1, e1, E1, A1, st⟩ := newP X hx hZ (aty := .int) w eT (g := mkF m pc Ls (.int n :: St)) rfl hd rfl hn (cap := cap) hcap hb hc hl
  exact Go.st st (kk _ _ _ X1 e1 E1 rfl (AI.new A1 rfl))
theorem w_newB (X : Stand p l e R s m args below meth c T locs cells slots) (hx : p.tables.exec = Jvm.exec) (hZ : Z.Warmed39 s.vm) {n : Int32} {cap : Nat} (eT : T.heap = h) (w : (Jvm.Cond.arrayClass .byte).before a0 Z = true) (hn : ¬ n < 0) (hcap : n.toNatClampNeg ≤ cap) (hb : cap * 8 ≤ 536870912) (hc : cells + 1 ≤ R.cells) (hl : slots + cap ≤ R.slots) (hd : decode c.code pc = .ok (.newarray .byte, 2)) (hp : pc + 2 = pc')
    (kk : ∀ (T' : State) (h' : Heap) (b : Addr), Stand p l e R s m args below meth c T' locs (cells + 1) (slots + cap) → T'.heap = h' → Ext h h' → b = h.size → AI Z h' b .byte (List.replicate n.toNatClampNeg 0) → Go p e below s cm sm Q T' (mkF m pc' Ls (.ref b :: St))) : Go p e below s cm sm Q T (mkF m pc Ls (.int n :: St)) := by
  subst hp
  obtain ⟨T1, h1, k1, X1, e1, E1, A1, st⟩ := newP X hx hZ (aty := .byte) w eT (g := mkF m pc Ls (.int n :: St)) rfl hd rfl hn (cap := cap) hcap hb hc hl
  exact Go.st st (kk _ _ _ X1 e1 E1 rfl (AI.new A1 rfl))
theorem w_newJ (X : Stand p l e R s m args below meth c T locs cells slots) (hx : p.tables.exec = Jvm.exec) (hZ : Z.Warmed39 s.vm) {n : Int32} {cap : Nat} (eT : T.heap = h) (w : (Jvm.Cond.arrayClass .long).before a0 Z = true) (hn : ¬ n < 0) (hcap : n.toNatClampNeg ≤ cap) (hb : cap * 8 ≤ 536870912) (hc : cells + 1 ≤ R.cells) (hl : slots + cap ≤ R.slots) (hd : decode c.code pc = .ok (.newarray .long, 2)) (hp : pc + 2 = pc')
    (kk : ∀ (T' : State) (h' : Heap) (b : Addr), Stand p l e R s m args below meth c T' locs (cells + 1) (slots + cap) → T'.heap = h' → Ext h h' → b = h.size → AJ Z h' b (List.replicate n.toNatClampNeg 0) → Go p e below s cm sm Q T' (mkF m pc' Ls (.ref b :: St))) : Go p e below s cm sm Q T (mkF m pc Ls (.int n :: St)) := by
  subst hp
  obtain ⟨T1, h1, k1, X1, e1, E1, A1, st⟩ := newP X hx hZ (aty := .long) w eT (g := mkF m pc Ls (.int n :: St)) rfl hd rfl hn (cap := cap) hcap hb hc hl
  exact Go.st st (kk _ _ _ X1 e1 E1 rfl (AJ.new A1))
theorem w_callP (X : Stand p l e R s m args below meth c T locs cells slots) (hx : p.tables.exec = Jvm.exec) (hZ : Z.Warmed39 s.vm) {own : String} {index : Nat} {y : MethodName} {bytes : ByteArray} {maxL : Nat} {ret : Option FieldType} {rm : Room} {W : Nat} {argsL rest : List Value} {Qc : Option Value → Heap → List Loc → Prop} {a : Addr} (hown : s.vm.findClass own = some m.cls) (eT : T.heap = h) (E : Exa Z h a y.cls) (C : Con l Z y bytes maxL ret rm (.ref a :: argsL).toArray h Qc) (w1 : (Jvm.Cond.methodLink own index y).before a0 Z = true) (w2 : (Jvm.Cond.instanceMethod y).before a0 Z = true) (ws : (Jvm.Cond.selects y.cls y y).before a0 Z = true) (wp : (Jvm.Cond.privateMethod y).before a0 Z = true) (w3 : (Jvm.Cond.initialized y.cls).before a0 Z = true) (w4 : (Jvm.Cond.code y bytes maxL ret).before a0 Z = true) (hy : y.cls ≠ "java/lang/invoke/MethodHandle" ∧ y.cls ≠ "java/lang/invoke/VarHandle")
    (hf : rm.frames + 1 ≤ R.frames) (hl : W + (maxL + 11) + rm.locals ≤ R.locals) (hc : cells + rm.cells ≤ R.cells) (hs : slots + rm.slots ≤ R.slots) (hsz : Ls.size = c.maxLocals) (hlen : ∀ sig, parseMethodDescriptor y.desc = some sig → argsL.length = sig.parameters.length) (hW : (rest.map fun v => v.category).sum ≤ W) (hst : St = argsL.reverse ++ .ref a :: rest) (hd : decode c.code pc = .ok (.invokevirtual index, 3)) (hp : pc + 3 = pc')
    (kk : ∀ (T' : State) (L : List Loc) (v : Option Value), Stand p l e R s m args below meth c T' (locs ++ L) (cells + rm.cells) (slots + rm.slots) → Qc v T'.heap L → Go p e below s cm sm Q T' (mkF m pc' Ls (v.toList ++ rest))) : Go p e below s cm sm Q T (mkF m pc Ls St) := by
  subst hp hst
  obtain ⟨cq, q1, q2⟩ := E.cell
  obtain ⟨v, _, ⟨T1, L1, k1, n1⟩, -, X1, ⟨Lc, hQ, l1, y1, z1⟩, st⟩ := X.privateBack hx (y := y) hown (mvT hZ w1) (mvT hZ w2) (mvT hZ ws) (Cond.privateMethod_at (mvP hZ wp (args := #[]))) (mvT hZ w4) hy (C.back (W := W) hZ w4 w3 hf hl) (g := mkF m pc Ls (argsL.reverse ++ .ref a :: rest)) rfl hsz (Steps.refl _) (a := a) (by rw [eT]; exact q1) q2 (argsL := argsL) (rest := rest) hlen rfl (by show 2 * 0 + _ ≤ _; rw [Nat.mul_zero, Nat.zero_add]; exact hW) hd (fun _ _ => ⟨rfl, eT, hc, hs⟩)
  dsimp only [Pt.U, Pt.locs, Pt.cells, Pt.slots] at X1 l1 y1 z1 st hQ
  subst l1 y1 z1
  exact Go.st (fun t q => st.trans q) (kk _ _ _ X1 hQ)
theorem w_ifnullNo (X : Stand p l e R s m args below meth c T locs cells slots) (hx : p.tables.exec = Jvm.exec) {o : Int} {b : Addr} (hd : decode c.code pc = .ok (.ifnull o, 3)) (hp : pc + 3 = pc') (kk : Go p e below s cm sm Q T (mkF m pc' Ls St)) : Go p e below s cm sm Q T (mkF m pc Ls (.ref b :: St)) := by
  subst hp
  exact Go.st (fun t q => XS.ifnullNo (g := mkF m pc Ls (.ref b :: St)) X.here hx rfl hd rfl q) kk
theorem own_len {n k : Nat} (h : n < 2147483648) (hk : k < 2147483648) (hc : ¬ n.toInt32 < k.toInt32) : k ≤ n := by
  rw [Int32.lt_iff_toInt_lt, len_toInt h, len_toInt hk] at hc
  omega
theorem own_len' {n k : Nat} (h : n < 2147483648) (hk : k < 2147483648) (hc : n.toInt32 < k.toInt32) : n < k := by
  rw [Int32.lt_iff_toInt_lt, len_toInt h, len_toInt hk] at hc
  omega
theorem own_getD {α : Type} {vs : List α} {j : Nat} {d : α} (h : j < vs.length) : vs[j]? = some (vs.getD j d) := by simp [h]
theorem own_nar0 : nar .boolean 0 = 0 := by decide
theorem own_nar1 : nar .boolean 1 = 1 := by decide
theorem w_up {c' s' : Nat} (X : Stand p l e R s m args below meth c T locs cells slots) (h1 : cells ≤ c') (h2 : slots ≤ s') : Stand p l e R s m args below meth c T locs c' s' :=
  ⟨X.admits, X.cas, X.clock, X.frames, X.room, X.hears, X.method, X.code, X.here, X.tail, X.warmed, X.limits, X.bytes, X.same.mono h1 h2⟩
end OwnKit
theorem pd_0 : parseMethodDescriptor "(JI)J" = some ⟨[.long, .int], some .long⟩ := by decide +kernel
theorem pd_1 : parseMethodDescriptor "(JI)I" = some ⟨[.long, .int], some .int⟩ := by decide +kernel
theorem d1_0 : decode prog_28_method_22_code 0 = .ok (.lconst 1, 1) := by decide +kernel
theorem d1_1 : decode prog_28_method_22_code 1 = .ok (.lload_n 0, 1) := by decide +kernel
theorem d1_2 : decode prog_28_method_22_code 2 = .ok (.l2i, 1) := by decide +kernel
theorem d1_3 : decode prog_28_method_22_code 3 = .ok (.lshl, 1) := by decide +kernel
theorem d1_4 : decode prog_28_method_22_code 4 = .ok (.lstore_n 3, 1) := by decide +kernel
theorem d1_5 : decode prog_28_method_22_code 5 = .ok (.iload_n 2, 1) := by decide +kernel
theorem d1_6 : decode prog_28_method_22_code 6 = .ok (.iconst 1, 1) := by decide +kernel
theorem d1_7 : decode prog_28_method_22_code 7 = .ok (.if_icmp .le 13, 3) := by decide +kernel
theorem d1_10 : decode prog_28_method_22_code 10 = .ok (.lload_n 3, 1) := by decide +kernel
theorem d1_11 : decode prog_28_method_22_code 11 = .ok (.lconst 1, 1) := by decide +kernel
theorem d1_12 : decode prog_28_method_22_code 12 = .ok (.lload_n 0, 1) := by decide +kernel
theorem d1_13 : decode prog_28_method_22_code 13 = .ok (.bipush 6, 2) := by decide +kernel
theorem d1_15 : decode prog_28_method_22_code 15 = .ok (.lushr, 1) := by decide +kernel
theorem d1_16 : decode prog_28_method_22_code 16 = .ok (.l2i, 1) := by decide +kernel
theorem d1_17 : decode prog_28_method_22_code 17 = .ok (.lshl, 1) := by decide +kernel
theorem d1_18 : decode prog_28_method_22_code 18 = .ok (.lor, 1) := by decide +kernel
theorem d1_19 : decode prog_28_method_22_code 19 = .ok (.lstore_n 3, 1) := by decide +kernel
theorem d1_20 : decode prog_28_method_22_code 20 = .ok (.iload_n 2, 1) := by decide +kernel
theorem d1_21 : decode prog_28_method_22_code 21 = .ok (.iconst 2, 1) := by decide +kernel
theorem d1_22 : decode prog_28_method_22_code 22 = .ok (.if_icmp .le 13, 3) := by decide +kernel
theorem d1_25 : decode prog_28_method_22_code 25 = .ok (.lload_n 3, 1) := by decide +kernel
theorem d1_26 : decode prog_28_method_22_code 26 = .ok (.lconst 1, 1) := by decide +kernel
theorem d1_27 : decode prog_28_method_22_code 27 = .ok (.lload_n 0, 1) := by decide +kernel
theorem d1_28 : decode prog_28_method_22_code 28 = .ok (.bipush 12, 2) := by decide +kernel
theorem d1_30 : decode prog_28_method_22_code 30 = .ok (.lushr, 1) := by decide +kernel
theorem d1_31 : decode prog_28_method_22_code 31 = .ok (.l2i, 1) := by decide +kernel
theorem d1_32 : decode prog_28_method_22_code 32 = .ok (.lshl, 1) := by decide +kernel
theorem d1_33 : decode prog_28_method_22_code 33 = .ok (.lor, 1) := by decide +kernel
theorem d1_34 : decode prog_28_method_22_code 34 = .ok (.lstore_n 3, 1) := by decide +kernel
theorem d1_35 : decode prog_28_method_22_code 35 = .ok (.iload_n 2, 1) := by decide +kernel
theorem d1_36 : decode prog_28_method_22_code 36 = .ok (.iconst 3, 1) := by decide +kernel
theorem d1_37 : decode prog_28_method_22_code 37 = .ok (.if_icmp .le 13, 3) := by decide +kernel
theorem d1_40 : decode prog_28_method_22_code 40 = .ok (.lload_n 3, 1) := by decide +kernel
theorem d1_41 : decode prog_28_method_22_code 41 = .ok (.lconst 1, 1) := by decide +kernel
theorem d1_42 : decode prog_28_method_22_code 42 = .ok (.lload_n 0, 1) := by decide +kernel
theorem d1_43 : decode prog_28_method_22_code 43 = .ok (.bipush 18, 2) := by decide +kernel
theorem d1_45 : decode prog_28_method_22_code 45 = .ok (.lushr, 1) := by decide +kernel
theorem d1_46 : decode prog_28_method_22_code 46 = .ok (.l2i, 1) := by decide +kernel
theorem d1_47 : decode prog_28_method_22_code 47 = .ok (.lshl, 1) := by decide +kernel
theorem d1_48 : decode prog_28_method_22_code 48 = .ok (.lor, 1) := by decide +kernel
theorem d1_49 : decode prog_28_method_22_code 49 = .ok (.lstore_n 3, 1) := by decide +kernel
theorem d1_50 : decode prog_28_method_22_code 50 = .ok (.iload_n 2, 1) := by decide +kernel
theorem d1_51 : decode prog_28_method_22_code 51 = .ok (.iconst 4, 1) := by decide +kernel
theorem d1_52 : decode prog_28_method_22_code 52 = .ok (.if_icmp .le 13, 3) := by decide +kernel
theorem d1_55 : decode prog_28_method_22_code 55 = .ok (.lload_n 3, 1) := by decide +kernel
theorem d1_56 : decode prog_28_method_22_code 56 = .ok (.lconst 1, 1) := by decide +kernel
theorem d1_57 : decode prog_28_method_22_code 57 = .ok (.lload_n 0, 1) := by decide +kernel
theorem d1_58 : decode prog_28_method_22_code 58 = .ok (.bipush 24, 2) := by decide +kernel
theorem d1_60 : decode prog_28_method_22_code 60 = .ok (.lushr, 1) := by decide +kernel
theorem d1_61 : decode prog_28_method_22_code 61 = .ok (.l2i, 1) := by decide +kernel
theorem d1_62 : decode prog_28_method_22_code 62 = .ok (.lshl, 1) := by decide +kernel
theorem d1_63 : decode prog_28_method_22_code 63 = .ok (.lor, 1) := by decide +kernel
theorem d1_64 : decode prog_28_method_22_code 64 = .ok (.lstore_n 3, 1) := by decide +kernel
theorem d1_65 : decode prog_28_method_22_code 65 = .ok (.iload_n 2, 1) := by decide +kernel
theorem d1_66 : decode prog_28_method_22_code 66 = .ok (.iconst 5, 1) := by decide +kernel
theorem d1_67 : decode prog_28_method_22_code 67 = .ok (.if_icmp .le 13, 3) := by decide +kernel
theorem d1_70 : decode prog_28_method_22_code 70 = .ok (.lload_n 3, 1) := by decide +kernel
theorem d1_71 : decode prog_28_method_22_code 71 = .ok (.lconst 1, 1) := by decide +kernel
theorem d1_72 : decode prog_28_method_22_code 72 = .ok (.lload_n 0, 1) := by decide +kernel
theorem d1_73 : decode prog_28_method_22_code 73 = .ok (.bipush 30, 2) := by decide +kernel
theorem d1_75 : decode prog_28_method_22_code 75 = .ok (.lushr, 1) := by decide +kernel
theorem d1_76 : decode prog_28_method_22_code 76 = .ok (.l2i, 1) := by decide +kernel
theorem d1_77 : decode prog_28_method_22_code 77 = .ok (.lshl, 1) := by decide +kernel
theorem d1_78 : decode prog_28_method_22_code 78 = .ok (.lor, 1) := by decide +kernel
theorem d1_79 : decode prog_28_method_22_code 79 = .ok (.lstore_n 3, 1) := by decide +kernel
theorem d1_80 : decode prog_28_method_22_code 80 = .ok (.iload_n 2, 1) := by decide +kernel
theorem d1_81 : decode prog_28_method_22_code 81 = .ok (.bipush 6, 2) := by decide +kernel
theorem d1_83 : decode prog_28_method_22_code 83 = .ok (.if_icmp .le 13, 3) := by decide +kernel
theorem d1_86 : decode prog_28_method_22_code 86 = .ok (.lload_n 3, 1) := by decide +kernel
theorem d1_87 : decode prog_28_method_22_code 87 = .ok (.lconst 1, 1) := by decide +kernel
theorem d1_88 : decode prog_28_method_22_code 88 = .ok (.lload_n 0, 1) := by decide +kernel
theorem d1_89 : decode prog_28_method_22_code 89 = .ok (.bipush 36, 2) := by decide +kernel
theorem d1_91 : decode prog_28_method_22_code 91 = .ok (.lushr, 1) := by decide +kernel
theorem d1_92 : decode prog_28_method_22_code 92 = .ok (.l2i, 1) := by decide +kernel
theorem d1_93 : decode prog_28_method_22_code 93 = .ok (.lshl, 1) := by decide +kernel
theorem d1_94 : decode prog_28_method_22_code 94 = .ok (.lor, 1) := by decide +kernel
theorem d1_95 : decode prog_28_method_22_code 95 = .ok (.lstore_n 3, 1) := by decide +kernel
theorem d1_96 : decode prog_28_method_22_code 96 = .ok (.iload_n 2, 1) := by decide +kernel
theorem d1_97 : decode prog_28_method_22_code 97 = .ok (.bipush 7, 2) := by decide +kernel
theorem d1_99 : decode prog_28_method_22_code 99 = .ok (.if_icmp .le 13, 3) := by decide +kernel
theorem d1_102 : decode prog_28_method_22_code 102 = .ok (.lload_n 3, 1) := by decide +kernel
theorem d1_103 : decode prog_28_method_22_code 103 = .ok (.lconst 1, 1) := by decide +kernel
theorem d1_104 : decode prog_28_method_22_code 104 = .ok (.lload_n 0, 1) := by decide +kernel
theorem d1_105 : decode prog_28_method_22_code 105 = .ok (.bipush 42, 2) := by decide +kernel
theorem d1_107 : decode prog_28_method_22_code 107 = .ok (.lushr, 1) := by decide +kernel
theorem d1_108 : decode prog_28_method_22_code 108 = .ok (.l2i, 1) := by decide +kernel
theorem d1_109 : decode prog_28_method_22_code 109 = .ok (.lshl, 1) := by decide +kernel
theorem d1_110 : decode prog_28_method_22_code 110 = .ok (.lor, 1) := by decide +kernel
theorem d1_111 : decode prog_28_method_22_code 111 = .ok (.lstore_n 3, 1) := by decide +kernel
theorem d1_112 : decode prog_28_method_22_code 112 = .ok (.lload_n 3, 1) := by decide +kernel
theorem d1_113 : decode prog_28_method_22_code 113 = .ok (.lreturn, 1) := by decide +kernel
def K1_96 (x0 : Int64) (x2 : Int32) (x3 : Int64) : Int64 :=
  (if (7 : Int32) < x2 then (x3 ||| ((1 : Int64) <<< ((jlushr x0 (42 : Int32)).toInt32 &&& 0x3f).toInt64))
  else x3)
set_option maxRecDepth 65536 in
set_option maxHeartbeats 4000000 in
theorem bk1_96 {p : Program} {l : Launch} {e : Env} {s : State} {m : MethodId} {args : Array Value} {below : List Frame} {meth : Method} {c : Code} {T : State} {locs : List Loc} {Z : State} {a0 : Array Value} {h0 : Heap} {n0 : Nat} (X : Stand p l e ({ frames := 0, cells := 0, slots := 0, locals := 0 } : Room) s m args below meth c T locs 0 0) (hx : p.tables.exec = Jvm.exec) (hZ : Z.Warmed39 s.vm) (hw : ∀ d ∈ tables_1, d.before a0 Z = true) (hby : c.code = prog_28_method_22_code) (hml : c.maxLocals = 5) (hown : s.vm.findClass "com/example/vaglio/vaglio/filter/BlockedFilter" = some m.cls) (hret : meth.sig.returnType = (some .long)) (hlk : meth.locks = false) (e0 : T.heap = h0) (N0 : Fr n0 locs) (x0 : Int64) (x2 : Int32) (x3 : Int64) :
    Go p e below s 0 0 (QP (some (.long (K1_96 x0 x2 x3))) h0 n0) T (mkF m 96 #[.val (.long x0), .second, .val (.int x2), .val (.long x3), .second] []) := by
  rw [K1_96]
  refine w_iloadN X hx (hb hby d1_96) (pc' := 97) rfl rfl ?_
  refine w_bipush (v := 7) X hx (hb hby d1_97) (pc' := 99) rfl rfl ?_
  refine w_icmp_le X hx (hb hby d1_99) (pf := 102) (pt := 112) rfl (by decide) (by decide) (fun hc99 => ?_) (fun hc99 => ?_)
  · rw [if_neg hc99]
    refine w_lloadN X hx (hb hby d1_112) (pc' := 113) rfl rfl ?_
    exact w_retJ X hx hret hlk (hb hby d1_113) (by decide) (by decide) ⟨rfl, N0, e0⟩
  · rw [if_pos hc99]
    refine w_lloadN X hx (hb hby d1_102) (pc' := 103) rfl rfl ?_
    refine w_lconst (v := 1) X hx (hb hby d1_103) (pc' := 104) rfl rfl ?_
    refine w_lloadN X hx (hb hby d1_104) (pc' := 105) rfl rfl ?_
    refine w_bipush (v := 42) X hx (hb hby d1_105) (pc' := 107) rfl rfl ?_
    refine w_lushr X hx (hb hby d1_107) (pc' := 108) rfl ?_
    refine w_l2i X hx (hb hby d1_108) (pc' := 109) rfl ?_
    refine w_lshl X hx (hb hby d1_109) (pc' := 110) rfl ?_
    refine w_lor X hx (hb hby d1_110) (pc' := 111) rfl ?_
    refine w_lstoreN (Ls' := #[.val (.long x0), .second, .val (.int x2), .val (.long (x3 ||| ((1 : Int64) <<< ((jlushr x0 (42 : Int32)).toInt32 &&& 0x3f).toInt64))), .second]) X hx (hb hby d1_111) (pc' := 112) rfl rfl ?_
    refine w_lloadN X hx (hb hby d1_112) (pc' := 113) rfl rfl ?_
    exact w_retJ X hx hret hlk (hb hby d1_113) (by decide) (by decide) ⟨rfl, N0, e0⟩
def K1_80 (x0 : Int64) (x2 : Int32) (x3 : Int64) : Int64 :=
  (if (6 : Int32) < x2 then (K1_96 x0 x2 (x3 ||| ((1 : Int64) <<< ((jlushr x0 (36 : Int32)).toInt32 &&& 0x3f).toInt64)))
  else (K1_96 x0 x2 x3))
set_option maxRecDepth 65536 in
set_option maxHeartbeats 4000000 in
theorem bk1_80 {p : Program} {l : Launch} {e : Env} {s : State} {m : MethodId} {args : Array Value} {below : List Frame} {meth : Method} {c : Code} {T : State} {locs : List Loc} {Z : State} {a0 : Array Value} {h0 : Heap} {n0 : Nat} (X : Stand p l e ({ frames := 0, cells := 0, slots := 0, locals := 0 } : Room) s m args below meth c T locs 0 0) (hx : p.tables.exec = Jvm.exec) (hZ : Z.Warmed39 s.vm) (hw : ∀ d ∈ tables_1, d.before a0 Z = true) (hby : c.code = prog_28_method_22_code) (hml : c.maxLocals = 5) (hown : s.vm.findClass "com/example/vaglio/vaglio/filter/BlockedFilter" = some m.cls) (hret : meth.sig.returnType = (some .long)) (hlk : meth.locks = false) (e0 : T.heap = h0) (N0 : Fr n0 locs) (x0 : Int64) (x2 : Int32) (x3 : Int64) :
    Go p e below s 0 0 (QP (some (.long (K1_80 x0 x2 x3))) h0 n0) T (mkF m 80 #[.val (.long x0), .second, .val (.int x2), .val (.long x3), .second] []) := by
  rw [K1_80]
  refine w_iloadN X hx (hb hby d1_80) (pc' := 81) rfl rfl ?_
  refine w_bipush (v := 6) X hx (hb hby d1_81) (pc' := 83) rfl rfl ?_
  refine w_icmp_le X hx (hb hby d1_83) (pf := 86) (pt := 96) rfl (by decide) (by decide) (fun hc83 => ?_) (fun hc83 => ?_)
  · rw [if_neg hc83]
    exact bk1_96 X hx hZ hw hby hml hown hret hlk e0 N0 x0 x2 x3
  · rw [if_pos hc83]
    refine w_lloadN X hx (hb hby d1_86) (pc' := 87) rfl rfl ?_
    refine w_lconst (v := 1) X hx (hb hby d1_87) (pc' := 88) rfl rfl ?_
    refine w_lloadN X hx (hb hby d1_88) (pc' := 89) rfl rfl ?_
    refine w_bipush (v := 36) X hx (hb hby d1_89) (pc' := 91) rfl rfl ?_
    refine w_lushr X hx (hb hby d1_91) (pc' := 92) rfl ?_
    refine w_l2i X hx (hb hby d1_92) (pc' := 93) rfl ?_
    refine w_lshl X hx (hb hby d1_93) (pc' := 94) rfl ?_
    refine w_lor X hx (hb hby d1_94) (pc' := 95) rfl ?_
    refine w_lstoreN (Ls' := #[.val (.long x0), .second, .val (.int x2), .val (.long (x3 ||| ((1 : Int64) <<< ((jlushr x0 (36 : Int32)).toInt32 &&& 0x3f).toInt64))), .second]) X hx (hb hby d1_95) (pc' := 96) rfl rfl ?_
    exact bk1_96 X hx hZ hw hby hml hown hret hlk e0 N0 x0 x2 (x3 ||| ((1 : Int64) <<< ((jlushr x0 (36 : Int32)).toInt32 &&& 0x3f).toInt64))
def K1_65 (x0 : Int64) (x2 : Int32) (x3 : Int64) : Int64 :=
  (if (5 : Int32) < x2 then (K1_80 x0 x2 (x3 ||| ((1 : Int64) <<< ((jlushr x0 (30 : Int32)).toInt32 &&& 0x3f).toInt64)))
  else (K1_80 x0 x2 x3))
set_option maxRecDepth 65536 in
set_option maxHeartbeats 4000000 in
theorem bk1_65 {p : Program} {l : Launch} {e : Env} {s : State} {m : MethodId} {args : Array Value} {below : List Frame} {meth : Method} {c : Code} {T : State} {locs : List Loc} {Z : State} {a0 : Array Value} {h0 : Heap} {n0 : Nat} (X : Stand p l e ({ frames := 0, cells := 0, slots := 0, locals := 0 } : Room) s m args below meth c T locs 0 0) (hx : p.tables.exec = Jvm.exec) (hZ : Z.Warmed39 s.vm) (hw : ∀ d ∈ tables_1, d.before a0 Z = true) (hby : c.code = prog_28_method_22_code) (hml : c.maxLocals = 5) (hown : s.vm.findClass "com/example/vaglio/vaglio/filter/BlockedFilter" = some m.cls) (hret : meth.sig.returnType = (some .long)) (hlk : meth.locks = false) (e0 : T.heap = h0) (N0 : Fr n0 locs) (x0 : Int64) (x2 : Int32) (x3 : Int64) :
    Go p e below s 0 0 (QP (some (.long (K1_65 x0 x2 x3))) h0 n0) T (mkF m 65 #[.val (.long x0), .second, .val (.int x2), .val (.long x3), .second] []) := by
  rw [K1_65]
  refine w_iloadN X hx (hb hby d1_65) (pc' := 66) rfl rfl ?_
  refine w_iconst (v := 5) X hx (hb hby d1_66) (pc' := 67) rfl rfl ?_
  refine w_icmp_le X hx (hb hby d1_67) (pf := 70) (pt := 80) rfl (by decide) (by decide) (fun hc67 => ?_) (fun hc67 => ?_)
  · rw [if_neg hc67]
    exact bk1_80 X hx hZ hw hby hml hown hret hlk e0 N0 x0 x2 x3
  · rw [if_pos hc67]
    refine w_lloadN X hx (hb hby d1_70) (pc' := 71) rfl rfl ?_
    refine w_lconst (v := 1) X hx (hb hby d1_71) (pc' := 72) rfl rfl ?_
    refine w_lloadN X hx (hb hby d1_72) (pc' := 73) rfl rfl ?_
    refine w_bipush (v := 30) X hx (hb hby d1_73) (pc' := 75) rfl rfl ?_
    refine w_lushr X hx (hb hby d1_75) (pc' := 76) rfl ?_
    refine w_l2i X hx (hb hby d1_76) (pc' := 77) rfl ?_
    refine w_lshl X hx (hb hby d1_77) (pc' := 78) rfl ?_
    refine w_lor X hx (hb hby d1_78) (pc' := 79) rfl ?_
    refine w_lstoreN (Ls' := #[.val (.long x0), .second, .val (.int x2), .val (.long (x3 ||| ((1 : Int64) <<< ((jlushr x0 (30 : Int32)).toInt32 &&& 0x3f).toInt64))), .second]) X hx (hb hby d1_79) (pc' := 80) rfl rfl ?_
    exact bk1_80 X hx hZ hw hby hml hown hret hlk e0 N0 x0 x2 (x3 ||| ((1 : Int64) <<< ((jlushr x0 (30 : Int32)).toInt32 &&& 0x3f).toInt64))
def K1_50 (x0 : Int64) (x2 : Int32) (x3 : Int64) : Int64 :=
  (if (4 : Int32) < x2 then (K1_65 x0 x2 (x3 ||| ((1 : Int64) <<< ((jlushr x0 (24 : Int32)).toInt32 &&& 0x3f).toInt64)))
  else (K1_65 x0 x2 x3))
set_option maxRecDepth 65536 in
set_option maxHeartbeats 4000000 in
theorem bk1_50 {p : Program} {l : Launch} {e : Env} {s : State} {m : MethodId} {args : Array Value} {below : List Frame} {meth : Method} {c : Code} {T : State} {locs : List Loc} {Z : State} {a0 : Array Value} {h0 : Heap} {n0 : Nat} (X : Stand p l e ({ frames := 0, cells := 0, slots := 0, locals := 0 } : Room) s m args below meth c T locs 0 0) (hx : p.tables.exec = Jvm.exec) (hZ : Z.Warmed39 s.vm) (hw : ∀ d ∈ tables_1, d.before a0 Z = true) (hby : c.code = prog_28_method_22_code) (hml : c.maxLocals = 5) (hown : s.vm.findClass "com/example/vaglio/vaglio/filter/BlockedFilter" = some m.cls) (hret : meth.sig.returnType = (some .long)) (hlk : meth.locks = false) (e0 : T.heap = h0) (N0 : Fr n0 locs) (x0 : Int64) (x2 : Int32) (x3 : Int64) :
    Go p e below s 0 0 (QP (some (.long (K1_50 x0 x2 x3))) h0 n0) T (mkF m 50 #[.val (.long x0), .second, .val (.int x2), .val (.long x3), .second] []) := by
  rw [K1_50]
  refine w_iloadN X hx (hb hby d1_50) (pc' := 51) rfl rfl ?_
  refine w_iconst (v := 4) X hx (hb hby d1_51) (pc' := 52) rfl rfl ?_
  refine w_icmp_le X hx (hb hby d1_52) (pf := 55) (pt := 65) rfl (by decide) (by decide) (fun hc52 => ?_) (fun hc52 => ?_)
  · rw [if_neg hc52]
    exact bk1_65 X hx hZ hw hby hml hown hret hlk e0 N0 x0 x2 x3
  · rw [if_pos hc52]
    refine w_lloadN X hx (hb hby d1_55) (pc' := 56) rfl rfl ?_
    refine w_lconst (v := 1) X hx (hb hby d1_56) (pc' := 57) rfl rfl ?_
    refine w_lloadN X hx (hb hby d1_57) (pc' := 58) rfl rfl ?_
    refine w_bipush (v := 24) X hx (hb hby d1_58) (pc' := 60) rfl rfl ?_
    refine w_lushr X hx (hb hby d1_60) (pc' := 61) rfl ?_
    refine w_l2i X hx (hb hby d1_61) (pc' := 62) rfl ?_
    refine w_lshl X hx (hb hby d1_62) (pc' := 63) rfl ?_
    refine w_lor X hx (hb hby d1_63) (pc' := 64) rfl ?_
    refine w_lstoreN (Ls' := #[.val (.long x0), .second, .val (.int x2), .val (.long (x3 ||| ((1 : Int64) <<< ((jlushr x0 (24 : Int32)).toInt32 &&& 0x3f).toInt64))), .second]) X hx (hb hby d1_64) (pc' := 65) rfl rfl ?_
    exact bk1_65 X hx hZ hw hby hml hown hret hlk e0 N0 x0 x2 (x3 ||| ((1 : Int64) <<< ((jlushr x0 (24 : Int32)).toInt32 &&& 0x3f).toInt64))
def K1_35 (x0 : Int64) (x2 : Int32) (x3 : Int64) : Int64 :=
  (if (3 : Int32) < x2 then (K1_50 x0 x2 (x3 ||| ((1 : Int64) <<< ((jlushr x0 (18 : Int32)).toInt32 &&& 0x3f).toInt64)))
  else (K1_50 x0 x2 x3))
set_option maxRecDepth 65536 in
set_option maxHeartbeats 4000000 in
theorem bk1_35 {p : Program} {l : Launch} {e : Env} {s : State} {m : MethodId} {args : Array Value} {below : List Frame} {meth : Method} {c : Code} {T : State} {locs : List Loc} {Z : State} {a0 : Array Value} {h0 : Heap} {n0 : Nat} (X : Stand p l e ({ frames := 0, cells := 0, slots := 0, locals := 0 } : Room) s m args below meth c T locs 0 0) (hx : p.tables.exec = Jvm.exec) (hZ : Z.Warmed39 s.vm) (hw : ∀ d ∈ tables_1, d.before a0 Z = true) (hby : c.code = prog_28_method_22_code) (hml : c.maxLocals = 5) (hown : s.vm.findClass "com/example/vaglio/vaglio/filter/BlockedFilter" = some m.cls) (hret : meth.sig.returnType = (some .long)) (hlk : meth.locks = false) (e0 : T.heap = h0) (N0 : Fr n0 locs) (x0 : Int64) (x2 : Int32) (x3 : Int64) :
    Go p e below s 0 0 (QP (some (.long (K1_35 x0 x2 x3))) h0 n0) T (mkF m 35 #[.val (.long x0), .second, .val (.int x2), .val (.long x3), .second] []) := by
  rw [K1_35]
  refine w_iloadN X hx (hb hby d1_35) (pc' := 36) rfl rfl ?_
  refine w_iconst (v := 3) X hx (hb hby d1_36) (pc' := 37) rfl rfl ?_
  refine w_icmp_le X hx (hb hby d1_37) (pf := 40) (pt := 50) rfl (by decide) (by decide) (fun hc37 => ?_) (fun hc37 => ?_)
  · rw [if_neg hc37]
    exact bk1_50 X hx hZ hw hby hml hown hret hlk e0 N0 x0 x2 x3
  · rw [if_pos hc37]
    refine w_lloadN X hx (hb hby d1_40) (pc' := 41) rfl rfl ?_
    refine w_lconst (v := 1) X hx (hb hby d1_41) (pc' := 42) rfl rfl ?_
    refine w_lloadN X hx (hb hby d1_42) (pc' := 43) rfl rfl ?_
    refine w_bipush (v := 18) X hx (hb hby d1_43) (pc' := 45) rfl rfl ?_
    refine w_lushr X hx (hb hby d1_45) (pc' := 46) rfl ?_
    refine w_l2i X hx (hb hby d1_46) (pc' := 47) rfl ?_
    refine w_lshl X hx (hb hby d1_47) (pc' := 48) rfl ?_
    refine w_lor X hx (hb hby d1_48) (pc' := 49) rfl ?_
    refine w_lstoreN (Ls' := #[.val (.long x0), .second, .val (.int x2), .val (.long (x3 ||| ((1 : Int64) <<< ((jlushr x0 (18 : Int32)).toInt32 &&& 0x3f).toInt64))), .second]) X hx (hb hby d1_49) (pc' := 50) rfl rfl ?_
    exact bk1_50 X hx hZ hw hby hml hown hret hlk e0 N0 x0 x2 (x3 ||| ((1 : Int64) <<< ((jlushr x0 (18 : Int32)).toInt32 &&& 0x3f).toInt64))
def K1_20 (x0 : Int64) (x2 : Int32) (x3 : Int64) : Int64 :=
  (if (2 : Int32) < x2 then (K1_35 x0 x2 (x3 ||| ((1 : Int64) <<< ((jlushr x0 (12 : Int32)).toInt32 &&& 0x3f).toInt64)))
  else (K1_35 x0 x2 x3))
set_option maxRecDepth 65536 in
set_option maxHeartbeats 4000000 in
theorem bk1_20 {p : Program} {l : Launch} {e : Env} {s : State} {m : MethodId} {args : Array Value} {below : List Frame} {meth : Method} {c : Code} {T : State} {locs : List Loc} {Z : State} {a0 : Array Value} {h0 : Heap} {n0 : Nat} (X : Stand p l e ({ frames := 0, cells := 0, slots := 0, locals := 0 } : Room) s m args below meth c T locs 0 0) (hx : p.tables.exec = Jvm.exec) (hZ : Z.Warmed39 s.vm) (hw : ∀ d ∈ tables_1, d.before a0 Z = true) (hby : c.code = prog_28_method_22_code) (hml : c.maxLocals = 5) (hown : s.vm.findClass "com/example/vaglio/vaglio/filter/BlockedFilter" = some m.cls) (hret : meth.sig.returnType = (some .long)) (hlk : meth.locks = false) (e0 : T.heap = h0) (N0 : Fr n0 locs) (x0 : Int64) (x2 : Int32) (x3 : Int64) :
    Go p e below s 0 0 (QP (some (.long (K1_20 x0 x2 x3))) h0 n0) T (mkF m 20 #[.val (.long x0), .second, .val (.int x2), .val (.long x3), .second] []) := by
  rw [K1_20]
  refine w_iloadN X hx (hb hby d1_20) (pc' := 21) rfl rfl ?_
  refine w_iconst (v := 2) X hx (hb hby d1_21) (pc' := 22) rfl rfl ?_
  refine w_icmp_le X hx (hb hby d1_22) (pf := 25) (pt := 35) rfl (by decide) (by decide) (fun hc22 => ?_) (fun hc22 => ?_)
  · rw [if_neg hc22]
    exact bk1_35 X hx hZ hw hby hml hown hret hlk e0 N0 x0 x2 x3
  · rw [if_pos hc22]
    refine w_lloadN X hx (hb hby d1_25) (pc' := 26) rfl rfl ?_
    refine w_lconst (v := 1) X hx (hb hby d1_26) (pc' := 27) rfl rfl ?_
    refine w_lloadN X hx (hb hby d1_27) (pc' := 28) rfl rfl ?_
    refine w_bipush (v := 12) X hx (hb hby d1_28) (pc' := 30) rfl rfl ?_
    refine w_lushr X hx (hb hby d1_30) (pc' := 31) rfl ?_
    refine w_l2i X hx (hb hby d1_31) (pc' := 32) rfl ?_
    refine w_lshl X hx (hb hby d1_32) (pc' := 33) rfl ?_
    refine w_lor X hx (hb hby d1_33) (pc' := 34) rfl ?_
    refine w_lstoreN (Ls' := #[.val (.long x0), .second, .val (.int x2), .val (.long (x3 ||| ((1 : Int64) <<< ((jlushr x0 (12 : Int32)).toInt32 &&& 0x3f).toInt64))), .second]) X hx (hb hby d1_34) (pc' := 35) rfl rfl ?_
    exact bk1_35 X hx hZ hw hby hml hown hret hlk e0 N0 x0 x2 (x3 ||| ((1 : Int64) <<< ((jlushr x0 (12 : Int32)).toInt32 &&& 0x3f).toInt64))
def K1_0 (x0 : Int64) (x1 : Int32) : Int64 :=
  (if (1 : Int32) < x1 then (K1_20 x0 x1 (((1 : Int64) <<< (x0.toInt32 &&& 0x3f).toInt64) ||| ((1 : Int64) <<< ((jlushr x0 (6 : Int32)).toInt32 &&& 0x3f).toInt64)))
  else (K1_20 x0 x1 ((1 : Int64) <<< (x0.toInt32 &&& 0x3f).toInt64)))
set_option maxRecDepth 65536 in
set_option maxHeartbeats 4000000 in
theorem bk1_0 {p : Program} {l : Launch} {e : Env} {s : State} {m : MethodId} {args : Array Value} {below : List Frame} {meth : Method} {c : Code} {T : State} {locs : List Loc} {Z : State} {a0 : Array Value} {h0 : Heap} {n0 : Nat} (X : Stand p l e ({ frames := 0, cells := 0, slots := 0, locals := 0 } : Room) s m args below meth c T locs 0 0) (hx : p.tables.exec = Jvm.exec) (hZ : Z.Warmed39 s.vm) (hw : ∀ d ∈ tables_1, d.before a0 Z = true) (hby : c.code = prog_28_method_22_code) (hml : c.maxLocals = 5) (hown : s.vm.findClass "com/example/vaglio/vaglio/filter/BlockedFilter" = some m.cls) (hret : meth.sig.returnType = (some .long)) (hlk : meth.locks = false) (e0 : T.heap = h0) (N0 : Fr n0 locs) (x0 : Int64) (x1 : Int32) :
    Go p e below s 0 0 (QP (some (.long (K1_0 x0 x1))) h0 n0) T (mkF m 0 #[.val (.long x0), .second, .val (.int x1), .unset, .unset] []) := by
  rw [K1_0]
  refine w_lconst (v := 1) X hx (hb hby d1_0) (pc' := 1) rfl rfl ?_
  refine w_lloadN X hx (hb hby d1_1) (pc' := 2) rfl rfl ?_
  refine w_l2i X hx (hb hby d1_2) (pc' := 3) rfl ?_
  refine w_lshl X hx (hb hby d1_3) (pc' := 4) rfl ?_
  refine w_lstoreN (Ls' := #[.val (.long x0), .second, .val (.int x1), .val (.long ((1 : Int64) <<< (x0.toInt32 &&& 0x3f).toInt64)), .second]) X hx (hb hby d1_4) (pc' := 5) rfl rfl ?_
  refine w_iloadN X hx (hb hby d1_5) (pc' := 6) rfl rfl ?_
  refine w_iconst (v := 1) X hx (hb hby d1_6) (pc' := 7) rfl rfl ?_
  refine w_icmp_le X hx (hb hby d1_7) (pf := 10) (pt := 20) rfl (by decide) (by decide) (fun hc7 => ?_) (fun hc7 => ?_)
  · rw [if_neg hc7]
    exact bk1_20 X hx hZ hw hby hml hown hret hlk e0 N0 x0 x1 ((1 : Int64) <<< (x0.toInt32 &&& 0x3f).toInt64)
  · rw [if_pos hc7]
    refine w_lloadN X hx (hb hby d1_10) (pc' := 11) rfl rfl ?_
    refine w_lconst (v := 1) X hx (hb hby d1_11) (pc' := 12) rfl rfl ?_
    refine w_lloadN X hx (hb hby d1_12) (pc' := 13) rfl rfl ?_
    refine w_bipush (v := 6) X hx (hb hby d1_13) (pc' := 15) rfl rfl ?_
    refine w_lushr X hx (hb hby d1_15) (pc' := 16) rfl ?_
    refine w_l2i X hx (hb hby d1_16) (pc' := 17) rfl ?_
    refine w_lshl X hx (hb hby d1_17) (pc' := 18) rfl ?_
    refine w_lor X hx (hb hby d1_18) (pc' := 19) rfl ?_
    refine w_lstoreN (Ls' := #[.val (.long x0), .second, .val (.int x1), .val (.long (((1 : Int64) <<< (x0.toInt32 &&& 0x3f).toInt64) ||| ((1 : Int64) <<< ((jlushr x0 (6 : Int32)).toInt32 &&& 0x3f).toInt64))), .second]) X hx (hb hby d1_19) (pc' := 20) rfl rfl ?_
    exact bk1_20 X hx hZ hw hby hml hown hret hlk e0 N0 x0 x1 (((1 : Int64) <<< (x0.toInt32 &&& 0x3f).toInt64) ||| ((1 : Int64) <<< ((jlushr x0 (6 : Int32)).toInt32 &&& 0x3f).toInt64))
theorem ef_1 (m : MethodId) (x0 : Int64) (x1 : Int32) : entryFrame m #[(.long x0), (.int x1)] 5 = mkF m 0 #[.val (.long x0), .second, .val (.int x1), .unset, .unset] [] := by first | (simp [entryFrame, mkF, argsToLocals, Value.category]; done) | rfl
theorem rm1 (l : Launch) (Z : State) (a0 : Array Value) (hw : ∀ d ∈ tables_1, d.before a0 Z = true) (x0 : Int64) (x1 : Int32) (h0 : Heap) (n0 : Nat) :
    Con l Z (⟨"com/example/vaglio/vaglio/filter/BlockedFilter", "positionsMask", "(JI)J"⟩ : MethodName) prog_28_method_22_code 5 (some .long) ({ frames := 0, cells := 0, slots := 0, locals := 0 } : Room) #[(.long x0), (.int x1)] h0 (QP (some (.long (K1_0 x0 x1))) h0 n0) := by
  refine Con.of (plainFor_of_name (by first | (simp [plainName, overriddenIn]; done) | decide +kernel)) ?_
  intro p e s m below meth c T X hx hZ hby hml hown hnm hret hlk e0
  rw [ef_1]
  exact bk1_0 X hx hZ hw hby hml hown hret hlk e0 (Fr.nil n0) x0 x1
theorem d2_0 : decode method_3_code 0 = .ok (.lload_n 0, 1) := by decide +kernel
theorem d2_1 : decode method_3_code 1 = .ok (.iload_n 2, 1) := by decide +kernel
theorem d2_2 : decode method_3_code 2 = .ok (.lushr, 1) := by decide +kernel
theorem d2_3 : decode method_3_code 3 = .ok (.ldc2_w 20, 3) := by decide +kernel
theorem d2_6 : decode method_3_code 6 = .ok (.land, 1) := by decide +kernel
theorem d2_7 : decode method_3_code 7 = .ok (.l2i, 1) := by decide +kernel
theorem d2_8 : decode method_3_code 8 = .ok (.ireturn, 1) := by decide +kernel
def K2_0 (x0 : Int64) (x1 : Int32) : Int32 :=
  ((jlushr x0 x1) &&& (63 : Int64)).toInt32
set_option maxRecDepth 65536 in
set_option maxHeartbeats 4000000 in
theorem bk2_0 {p : Program} {l : Launch} {e : Env} {s : State} {m : MethodId} {args : Array Value} {below : List Frame} {meth : Method} {c : Code} {T : State} {locs : List Loc} {Z : State} {a0 : Array Value} {h0 : Heap} {n0 : Nat} (X : Stand p l e ({ frames := 0, cells := 0, slots := 0, locals := 0 } : Room) s m args below meth c T locs 0 0) (hx : p.tables.exec = Jvm.exec) (hZ : Z.Warmed39 s.vm) (hw : ∀ d ∈ tables_1, d.before a0 Z = true) (hby : c.code = method_3_code) (hml : c.maxLocals = 3) (hown : s.vm.findClass "com/example/vaglio/vaglio/filter/BlockedFilterPositionsMaskPinLaw" = some m.cls) (hret : meth.sig.returnType = (some .int)) (hlk : meth.locks = false) (e0 : T.heap = h0) (N0 : Fr n0 locs) (x0 : Int64) (x1 : Int32) :
    Go p e below s 0 0 (QP (some (.int (K2_0 x0 x1))) h0 n0) T (mkF m 0 #[.val (.long x0), .second, .val (.int x1)] []) := by
  rw [K2_0]
  refine w_lloadN X hx (hb hby d2_0) (pc' := 1) rfl rfl ?_
  refine w_iloadN X hx (hb hby d2_1) (pc' := 2) rfl rfl ?_
  refine w_lushr X hx (hb hby d2_2) (pc' := 3) rfl ?_
  refine w_ldc2 X hx hZ hown (hw _ (List.mem_of_getElem? (i := 9) rfl)) (hb hby d2_3) (pc' := 6) rfl ?_
  refine w_land X hx (hb hby d2_6) (pc' := 7) rfl ?_
  refine w_l2i X hx (hb hby d2_7) (pc' := 8) rfl ?_
  exact w_retI X hx hret hlk (hb hby d2_8) (by decide) (by decide) ⟨rfl, N0, e0⟩
theorem ef_2 (m : MethodId) (x0 : Int64) (x1 : Int32) : entryFrame m #[(.long x0), (.int x1)] 3 = mkF m 0 #[.val (.long x0), .second, .val (.int x1)] [] := by first | (simp [entryFrame, mkF, argsToLocals, Value.category]; done) | rfl
theorem rm2 (l : Launch) (Z : State) (a0 : Array Value) (hw : ∀ d ∈ tables_1, d.before a0 Z = true) (x0 : Int64) (x1 : Int32) (h0 : Heap) (n0 : Nat) :
    Con l Z (⟨"com/example/vaglio/vaglio/filter/BlockedFilterPositionsMaskPinLaw", "field", "(JI)I"⟩ : MethodName) method_3_code 3 (some .int) ({ frames := 0, cells := 0, slots := 0, locals := 0 } : Room) #[(.long x0), (.int x1)] h0 (QP (some (.int (K2_0 x0 x1))) h0 n0) := by
  refine Con.of (plainFor_of_name (by first | (simp [plainName, overriddenIn]; done) | decide +kernel)) ?_
  intro p e s m below meth c T X hx hZ hby hml hown hnm hret hlk e0
  rw [ef_2]
  exact bk2_0 X hx hZ hw hby hml hown hret hlk e0 (Fr.nil n0) x0 x1
def K0_181 (x8 : Int32) (y0 : Int32) : Int32 :=
  (if x8 = y0 then (1 : Int32)
  else (0 : Int32))
set_option maxRecDepth 65536 in
set_option maxHeartbeats 4000000 in
theorem bk0_181 {p : Program} {l : Launch} {e : Env} {s : State} {m : MethodId} {args : Array Value} {below : List Frame} {meth : Method} {c : Code} {T : State} {locs : List Loc} {Z : State} {a0 : Array Value} {h0 : Heap} {n0 : Nat} (X : Stand p l e room_1 s m args below meth c T locs 0 0) (hx : p.tables.exec = Jvm.exec) (hZ : Z.Warmed39 s.vm) (hw : ∀ d ∈ tables_1, d.before a0 Z = true) (hby : c.code = code) (hml : c.maxLocals = 10) (hown : s.vm.findClass "com/example/vaglio/vaglio/filter/BlockedFilterPositionsMaskPinLaw" = some m.cls) (hret : meth.sig.returnType = (some .boolean)) (hlk : meth.locks = false) (e0 : T.heap = h0) (N0 : Fr n0 locs) (x0 : Int64) (x2 : Int32) (x3 : Int32) (x4 : Int32) (x5 : Int32) (x6 : Int64) (x8 : Int32) (y0 : Int32) :
    Go p e below s room_1.cells room_1.slots (QL (some (.int (K0_181 x8 y0))) n0) T (mkF m 181 #[.val (.long x0), .second, .val (.int x2), .val (.int x3), .val (.int x4), .val (.int x5), .val (.long x6), .second, .val (.int x8), .unset] [(.int y0)]) := by
  rw [K0_181]
  refine w_istore (Ls' := #[.val (.long x0), .second, .val (.int x2), .val (.int x3), .val (.int x4), .val (.int x5), .val (.long x6), .second, .val (.int x8), .val (.int y0)]) X hx (hb hby at_181) (pc' := 183) rfl rfl ?_
  refine w_iload X hx (hb hby at_183) (pc' := 185) rfl rfl ?_
  refine w_iload X hx (hb hby at_185) (pc' := 187) rfl rfl ?_
  refine w_icmp_ne X hx (hb hby at_187) (pf := 190) (pt := 194) rfl (by decide) (by decide) (fun hc187 => ?_) (fun hc187 => ?_)
  · rw [if_neg hc187]
    refine w_iconst (v := 0) X hx (hb hby at_194) (pc' := 195) rfl rfl ?_
    exact w_retZ X hx hret hlk (hb hby at_195) (by decide) (by decide) ⟨rfl, N0⟩
  · rw [if_pos hc187]
    refine w_iconst (v := 1) X hx (hb hby at_190) (pc' := 191) rfl rfl ?_
    refine w_goto X hx (hb hby at_191) (pc' := 195) (by decide) (by decide) ?_
    exact w_retZ X hx hret hlk (hb hby at_195) (by decide) (by decide) ⟨rfl, N0⟩
def K0_158 (x0 : Int64) (x4 : Int32) (x5 : Int32) (x8 : Int32) : Int32 :=
  (if x4 < (8 : Int32) then (K0_181 x8 (0 : Int32))
  else (if (K2_0 x0 (42 : Int32)) = x5 then (K0_181 x8 (1 : Int32))
   else (K0_181 x8 (0 : Int32))))
set_option maxRecDepth 65536 in
set_option maxHeartbeats 4000000 in
theorem bk0_158 {p : Program} {l : Launch} {e : Env} {s : State} {m : MethodId} {args : Array Value} {below : List Frame} {meth : Method} {c : Code} {T : State} {locs : List Loc} {Z : State} {a0 : Array Value} {h0 : Heap} {n0 : Nat} (X : Stand p l e room_1 s m args below meth c T locs 0 0) (hx : p.tables.exec = Jvm.exec) (hZ : Z.Warmed39 s.vm) (hw : ∀ d ∈ tables_1, d.before a0 Z = true) (hby : c.code = code) (hml : c.maxLocals = 10) (hown : s.vm.findClass "com/example/vaglio/vaglio/filter/BlockedFilterPositionsMaskPinLaw" = some m.cls) (hret : meth.sig.returnType = (some .boolean)) (hlk : meth.locks = false) (e0 : T.heap = h0) (N0 : Fr n0 locs) (x0 : Int64) (x2 : Int32) (x3 : Int32) (x4 : Int32) (x5 : Int32) (x6 : Int64) (x8 : Int32) :
    Go p e below s room_1.cells room_1.slots (QL (some (.int (K0_158 x0 x4 x5 x8))) n0) T (mkF m 158 #[.val (.long x0), .second, .val (.int x2), .val (.int x3), .val (.int x4), .val (.int x5), .val (.long x6), .second, .val (.int x8), .unset] []) := by
  rw [K0_158]
  refine w_iload X hx (hb hby at_158) (pc' := 160) rfl rfl ?_
  refine w_bipush (v := 8) X hx (hb hby at_160) (pc' := 162) rfl rfl ?_
  refine w_icmp_lt X hx (hb hby at_162) (pf := 165) (pt := 180) rfl (by decide) (by decide) (fun hc162 => ?_) (fun hc162 => ?_)
  · rw [if_pos hc162]
    refine w_iconst (v := 0) X hx (hb hby at_180) (pc' := 181) rfl rfl ?_
    exact bk0_181 X hx hZ hw hby hml hown hret hlk e0 N0 x0 x2 x3 x4 x5 x6 x8 (0 : Int32)
  · rw [if_neg hc162]
    refine w_lloadN X hx (hb hby at_165) (pc' := 166) rfl rfl ?_
    refine w_bipush (v := 42) X hx (hb hby at_166) (pc' := 168) rfl rfl ?_
    refine w_callS (argsL := [(.long x0), (.int (42 : Int32))]) (rest := []) X hx hZ hown e0 (rm2 l Z a0 hw x0 (42 : Int32) h0 n0) (hw _ (List.mem_of_getElem? (i := 5) rfl)) (hw _ (List.mem_of_getElem? (i := 6) rfl)) (hw _ (List.mem_of_getElem? (i := 7) rfl)) (hw _ (List.mem_of_getElem? (i := 8) rfl)) (by decide) (by decide) (W := 0) (by decide) (by decide) (by decide) (by rw [hml]; rfl) (lenOf pd_1 rfl) (Nat.le_refl _) rfl (hb hby at_168) (pc' := 171) rfl (fun T9 L9 v9 X9 hQ9 => ?_)
    obtain ⟨rfl, N9q, e9⟩ := hQ9
    have N9 := Fr.app N0 N9q
    have X9 : Stand p l e room_1 s m _ below meth c T9 _ 0 0 := X9
    show Go p e below s room_1.cells room_1.slots _ T9 (mkF m 171 #[.val (.long x0), .second, .val (.int x2), .val (.int x3), .val (.int x4), .val (.int x5), .val (.long x6), .second, .val (.int x8), .unset] [(.int (K2_0 x0 (42 : Int32)))])
    refine w_iload X9 hx (hb hby at_171) (pc' := 173) rfl rfl ?_
    refine w_icmp_ne X9 hx (hb hby at_173) (pf := 176) (pt := 180) rfl (by decide) (by decide) (fun hc173 => ?_) (fun hc173 => ?_)
    · rw [if_neg hc173]
      refine w_iconst (v := 0) X9 hx (hb hby at_180) (pc' := 181) rfl rfl ?_
      exact bk0_181 X9 hx hZ hw hby hml hown hret hlk e9 N9 x0 x2 x3 x4 x5 x6 x8 (0 : Int32)
    · rw [if_pos hc173]
      refine w_iconst (v := 1) X9 hx (hb hby at_176) (pc' := 177) rfl rfl ?_
      refine w_goto X9 hx (hb hby at_177) (pc' := 181) (by decide) (by decide) ?_
      exact bk0_181 X9 hx hZ hw hby hml hown hret hlk e9 N9 x0 x2 x3 x4 x5 x6 x8 (1 : Int32)
def K0_140 (x0 : Int64) (x4 : Int32) (x5 : Int32) (x8 : Int32) : Int32 :=
  (if x4 < (7 : Int32) then (K0_158 x0 x4 x5 x8)
  else (if (K2_0 x0 (36 : Int32)) = x5 then (K0_181 x8 (1 : Int32))
   else (K0_158 x0 x4 x5 x8)))
set_option maxRecDepth 65536 in
set_option maxHeartbeats 4000000 in
theorem bk0_140 {p : Program} {l : Launch} {e : Env} {s : State} {m : MethodId} {args : Array Value} {below : List Frame} {meth : Method} {c : Code} {T : State} {locs : List Loc} {Z : State} {a0 : Array Value} {h0 : Heap} {n0 : Nat} (X : Stand p l e room_1 s m args below meth c T locs 0 0) (hx : p.tables.exec = Jvm.exec) (hZ : Z.Warmed39 s.vm) (hw : ∀ d ∈ tables_1, d.before a0 Z = true) (hby : c.code = code) (hml : c.maxLocals = 10) (hown : s.vm.findClass "com/example/vaglio/vaglio/filter/BlockedFilterPositionsMaskPinLaw" = some m.cls) (hret : meth.sig.returnType = (some .boolean)) (hlk : meth.locks = false) (e0 : T.heap = h0) (N0 : Fr n0 locs) (x0 : Int64) (x2 : Int32) (x3 : Int32) (x4 : Int32) (x5 : Int32) (x6 : Int64) (x8 : Int32) :
    Go p e below s room_1.cells room_1.slots (QL (some (.int (K0_140 x0 x4 x5 x8))) n0) T (mkF m 140 #[.val (.long x0), .second, .val (.int x2), .val (.int x3), .val (.int x4), .val (.int x5), .val (.long x6), .second, .val (.int x8), .unset] []) := by
  rw [K0_140]
  refine w_iload X hx (hb hby at_140) (pc' := 142) rfl rfl ?_
  refine w_bipush (v := 7) X hx (hb hby at_142) (pc' := 144) rfl rfl ?_
  refine w_icmp_lt X hx (hb hby at_144) (pf := 147) (pt := 158) rfl (by decide) (by decide) (fun hc144 => ?_) (fun hc144 => ?_)
  · rw [if_pos hc144]
    exact bk0_158 X hx hZ hw hby hml hown hret hlk e0 N0 x0 x2 x3 x4 x5 x6 x8
  · rw [if_neg hc144]
    refine w_lloadN X hx (hb hby at_147) (pc' := 148) rfl rfl ?_
    refine w_bipush (v := 36) X hx (hb hby at_148) (pc' := 150) rfl rfl ?_
    refine w_callS (argsL := [(.long x0), (.int (36 : Int32))]) (rest := []) X hx hZ hown e0 (rm2 l Z a0 hw x0 (36 : Int32) h0 n0) (hw _ (List.mem_of_getElem? (i := 5) rfl)) (hw _ (List.mem_of_getElem? (i := 6) rfl)) (hw _ (List.mem_of_getElem? (i := 7) rfl)) (hw _ (List.mem_of_getElem? (i := 8) rfl)) (by decide) (by decide) (W := 0) (by decide) (by decide) (by decide) (by rw [hml]; rfl) (lenOf pd_1 rfl) (Nat.le_refl _) rfl (hb hby at_150) (pc' := 153) rfl (fun T8 L8 v8 X8 hQ8 => ?_)
    obtain ⟨rfl, N8q, e8⟩ := hQ8
    have N8 := Fr.app N0 N8q
    have X8 : Stand p l e room_1 s m _ below meth c T8 _ 0 0 := X8
    show Go p e below s room_1.cells room_1.slots _ T8 (mkF m 153 #[.val (.long x0), .second, .val (.int x2), .val (.int x3), .val (.int x4), .val (.int x5), .val (.long x6), .second, .val (.int x8), .unset] [(.int (K2_0 x0 (36 : Int32)))])
    refine w_iload X8 hx (hb hby at_153) (pc' := 155) rfl rfl ?_
    refine w_icmp_eq X8 hx (hb hby at_155) (pf := 158) (pt := 176) rfl (by decide) (by decide) (fun hc155 => ?_) (fun hc155 => ?_)
    · rw [if_pos hc155]
      refine w_iconst (v := 1) X8 hx (hb hby at_176) (pc' := 177) rfl rfl ?_
      refine w_goto X8 hx (hb hby at_177) (pc' := 181) (by decide) (by decide) ?_
      exact bk0_181 X8 hx hZ hw hby hml hown hret hlk e8 N8 x0 x2 x3 x4 x5 x6 x8 (1 : Int32)
    · rw [if_neg hc155]
      exact bk0_158 X8 hx hZ hw hby hml hown hret hlk e8 N8 x0 x2 x3 x4 x5 x6 x8
def K0_122 (x0 : Int64) (x4 : Int32) (x5 : Int32) (x8 : Int32) : Int32 :=
  (if x4 < (6 : Int32) then (K0_140 x0 x4 x5 x8)
  else (if (K2_0 x0 (30 : Int32)) = x5 then (K0_181 x8 (1 : Int32))
   else (K0_140 x0 x4 x5 x8)))
set_option maxRecDepth 65536 in
set_option maxHeartbeats 4000000 in
theorem bk0_122 {p : Program} {l : Launch} {e : Env} {s : State} {m : MethodId} {args : Array Value} {below : List Frame} {meth : Method} {c : Code} {T : State} {locs : List Loc} {Z : State} {a0 : Array Value} {h0 : Heap} {n0 : Nat} (X : Stand p l e room_1 s m args below meth c T locs 0 0) (hx : p.tables.exec = Jvm.exec) (hZ : Z.Warmed39 s.vm) (hw : ∀ d ∈ tables_1, d.before a0 Z = true) (hby : c.code = code) (hml : c.maxLocals = 10) (hown : s.vm.findClass "com/example/vaglio/vaglio/filter/BlockedFilterPositionsMaskPinLaw" = some m.cls) (hret : meth.sig.returnType = (some .boolean)) (hlk : meth.locks = false) (e0 : T.heap = h0) (N0 : Fr n0 locs) (x0 : Int64) (x2 : Int32) (x3 : Int32) (x4 : Int32) (x5 : Int32) (x6 : Int64) (x8 : Int32) :
    Go p e below s room_1.cells room_1.slots (QL (some (.int (K0_122 x0 x4 x5 x8))) n0) T (mkF m 122 #[.val (.long x0), .second, .val (.int x2), .val (.int x3), .val (.int x4), .val (.int x5), .val (.long x6), .second, .val (.int x8), .unset] []) := by
  rw [K0_122]
  refine w_iload X hx (hb hby at_122) (pc' := 124) rfl rfl ?_
  refine w_bipush (v := 6) X hx (hb hby at_124) (pc' := 126) rfl rfl ?_
  refine w_icmp_lt X hx (hb hby at_126) (pf := 129) (pt := 140) rfl (by decide) (by decide) (fun hc126 => ?_) (fun hc126 => ?_)
  · rw [if_pos hc126]
    exact bk0_140 X hx hZ hw hby hml hown hret hlk e0 N0 x0 x2 x3 x4 x5 x6 x8
  · rw [if_neg hc126]
    refine w_lloadN X hx (hb hby at_129) (pc' := 130) rfl rfl ?_
    refine w_bipush (v := 30) X hx (hb hby at_130) (pc' := 132) rfl rfl ?_
    refine w_callS (argsL := [(.long x0), (.int (30 : Int32))]) (rest := []) X hx hZ hown e0 (rm2 l Z a0 hw x0 (30 : Int32) h0 n0) (hw _ (List.mem_of_getElem? (i := 5) rfl)) (hw _ (List.mem_of_getElem? (i := 6) rfl)) (hw _ (List.mem_of_getElem? (i := 7) rfl)) (hw _ (List.mem_of_getElem? (i := 8) rfl)) (by decide) (by decide) (W := 0) (by decide) (by decide) (by decide) (by rw [hml]; rfl) (lenOf pd_1 rfl) (Nat.le_refl _) rfl (hb hby at_132) (pc' := 135) rfl (fun T7 L7 v7 X7 hQ7 => ?_)
    obtain ⟨rfl, N7q, e7⟩ := hQ7
    have N7 := Fr.app N0 N7q
    have X7 : Stand p l e room_1 s m _ below meth c T7 _ 0 0 := X7
    show Go p e below s room_1.cells room_1.slots _ T7 (mkF m 135 #[.val (.long x0), .second, .val (.int x2), .val (.int x3), .val (.int x4), .val (.int x5), .val (.long x6), .second, .val (.int x8), .unset] [(.int (K2_0 x0 (30 : Int32)))])
    refine w_iload X7 hx (hb hby at_135) (pc' := 137) rfl rfl ?_
    refine w_icmp_eq X7 hx (hb hby at_137) (pf := 140) (pt := 176) rfl (by decide) (by decide) (fun hc137 => ?_) (fun hc137 => ?_)
    · rw [if_pos hc137]
      refine w_iconst (v := 1) X7 hx (hb hby at_176) (pc' := 177) rfl rfl ?_
      refine w_goto X7 hx (hb hby at_177) (pc' := 181) (by decide) (by decide) ?_
      exact bk0_181 X7 hx hZ hw hby hml hown hret hlk e7 N7 x0 x2 x3 x4 x5 x6 x8 (1 : Int32)
    · rw [if_neg hc137]
      exact bk0_140 X7 hx hZ hw hby hml hown hret hlk e7 N7 x0 x2 x3 x4 x5 x6 x8
def K0_105 (x0 : Int64) (x4 : Int32) (x5 : Int32) (x8 : Int32) : Int32 :=
  (if x4 < (5 : Int32) then (K0_122 x0 x4 x5 x8)
  else (if (K2_0 x0 (24 : Int32)) = x5 then (K0_181 x8 (1 : Int32))
   else (K0_122 x0 x4 x5 x8)))
set_option maxRecDepth 65536 in
set_option maxHeartbeats 4000000 in
theorem bk0_105 {p : Program} {l : Launch} {e : Env} {s : State} {m : MethodId} {args : Array Value} {below : List Frame} {meth : Method} {c : Code} {T : State} {locs : List Loc} {Z : State} {a0 : Array Value} {h0 : Heap} {n0 : Nat} (X : Stand p l e room_1 s m args below meth c T locs 0 0) (hx : p.tables.exec = Jvm.exec) (hZ : Z.Warmed39 s.vm) (hw : ∀ d ∈ tables_1, d.before a0 Z = true) (hby : c.code = code) (hml : c.maxLocals = 10) (hown : s.vm.findClass "com/example/vaglio/vaglio/filter/BlockedFilterPositionsMaskPinLaw" = some m.cls) (hret : meth.sig.returnType = (some .boolean)) (hlk : meth.locks = false) (e0 : T.heap = h0) (N0 : Fr n0 locs) (x0 : Int64) (x2 : Int32) (x3 : Int32) (x4 : Int32) (x5 : Int32) (x6 : Int64) (x8 : Int32) :
    Go p e below s room_1.cells room_1.slots (QL (some (.int (K0_105 x0 x4 x5 x8))) n0) T (mkF m 105 #[.val (.long x0), .second, .val (.int x2), .val (.int x3), .val (.int x4), .val (.int x5), .val (.long x6), .second, .val (.int x8), .unset] []) := by
  rw [K0_105]
  refine w_iload X hx (hb hby at_105) (pc' := 107) rfl rfl ?_
  refine w_iconst (v := 5) X hx (hb hby at_107) (pc' := 108) rfl rfl ?_
  refine w_icmp_lt X hx (hb hby at_108) (pf := 111) (pt := 122) rfl (by decide) (by decide) (fun hc108 => ?_) (fun hc108 => ?_)
  · rw [if_pos hc108]
    exact bk0_122 X hx hZ hw hby hml hown hret hlk e0 N0 x0 x2 x3 x4 x5 x6 x8
  · rw [if_neg hc108]
    refine w_lloadN X hx (hb hby at_111) (pc' := 112) rfl rfl ?_
    refine w_bipush (v := 24) X hx (hb hby at_112) (pc' := 114) rfl rfl ?_
    refine w_callS (argsL := [(.long x0), (.int (24 : Int32))]) (rest := []) X hx hZ hown e0 (rm2 l Z a0 hw x0 (24 : Int32) h0 n0) (hw _ (List.mem_of_getElem? (i := 5) rfl)) (hw _ (List.mem_of_getElem? (i := 6) rfl)) (hw _ (List.mem_of_getElem? (i := 7) rfl)) (hw _ (List.mem_of_getElem? (i := 8) rfl)) (by decide) (by decide) (W := 0) (by decide) (by decide) (by decide) (by rw [hml]; rfl) (lenOf pd_1 rfl) (Nat.le_refl _) rfl (hb hby at_114) (pc' := 117) rfl (fun T6 L6 v6 X6 hQ6 => ?_)
    obtain ⟨rfl, N6q, e6⟩ := hQ6
    have N6 := Fr.app N0 N6q
    have X6 : Stand p l e room_1 s m _ below meth c T6 _ 0 0 := X6
    show Go p e below s room_1.cells room_1.slots _ T6 (mkF m 117 #[.val (.long x0), .second, .val (.int x2), .val (.int x3), .val (.int x4), .val (.int x5), .val (.long x6), .second, .val (.int x8), .unset] [(.int (K2_0 x0 (24 : Int32)))])
    refine w_iload X6 hx (hb hby at_117) (pc' := 119) rfl rfl ?_
    refine w_icmp_eq X6 hx (hb hby at_119) (pf := 122) (pt := 176) rfl (by decide) (by decide) (fun hc119 => ?_) (fun hc119 => ?_)
    · rw [if_pos hc119]
      refine w_iconst (v := 1) X6 hx (hb hby at_176) (pc' := 177) rfl rfl ?_
      refine w_goto X6 hx (hb hby at_177) (pc' := 181) (by decide) (by decide) ?_
      exact bk0_181 X6 hx hZ hw hby hml hown hret hlk e6 N6 x0 x2 x3 x4 x5 x6 x8 (1 : Int32)
    · rw [if_neg hc119]
      exact bk0_122 X6 hx hZ hw hby hml hown hret hlk e6 N6 x0 x2 x3 x4 x5 x6 x8
def K0_88 (x0 : Int64) (x4 : Int32) (x5 : Int32) (x8 : Int32) : Int32 :=
  (if x4 < (4 : Int32) then (K0_105 x0 x4 x5 x8)
  else (if (K2_0 x0 (18 : Int32)) = x5 then (K0_181 x8 (1 : Int32))
   else (K0_105 x0 x4 x5 x8)))
set_option maxRecDepth 65536 in
set_option maxHeartbeats 4000000 in
theorem bk0_88 {p : Program} {l : Launch} {e : Env} {s : State} {m : MethodId} {args : Array Value} {below : List Frame} {meth : Method} {c : Code} {T : State} {locs : List Loc} {Z : State} {a0 : Array Value} {h0 : Heap} {n0 : Nat} (X : Stand p l e room_1 s m args below meth c T locs 0 0) (hx : p.tables.exec = Jvm.exec) (hZ : Z.Warmed39 s.vm) (hw : ∀ d ∈ tables_1, d.before a0 Z = true) (hby : c.code = code) (hml : c.maxLocals = 10) (hown : s.vm.findClass "com/example/vaglio/vaglio/filter/BlockedFilterPositionsMaskPinLaw" = some m.cls) (hret : meth.sig.returnType = (some .boolean)) (hlk : meth.locks = false) (e0 : T.heap = h0) (N0 : Fr n0 locs) (x0 : Int64) (x2 : Int32) (x3 : Int32) (x4 : Int32) (x5 : Int32) (x6 : Int64) (x8 : Int32) :
    Go p e below s room_1.cells room_1.slots (QL (some (.int (K0_88 x0 x4 x5 x8))) n0) T (mkF m 88 #[.val (.long x0), .second, .val (.int x2), .val (.int x3), .val (.int x4), .val (.int x5), .val (.long x6), .second, .val (.int x8), .unset] []) := by
  rw [K0_88]
  refine w_iload X hx (hb hby at_88) (pc' := 90) rfl rfl ?_
  refine w_iconst (v := 4) X hx (hb hby at_90) (pc' := 91) rfl rfl ?_
  refine w_icmp_lt X hx (hb hby at_91) (pf := 94) (pt := 105) rfl (by decide) (by decide) (fun hc91 => ?_) (fun hc91 => ?_)
  · rw [if_pos hc91]
    exact bk0_105 X hx hZ hw hby hml hown hret hlk e0 N0 x0 x2 x3 x4 x5 x6 x8
  · rw [if_neg hc91]
    refine w_lloadN X hx (hb hby at_94) (pc' := 95) rfl rfl ?_
    refine w_bipush (v := 18) X hx (hb hby at_95) (pc' := 97) rfl rfl ?_
    refine w_callS (argsL := [(.long x0), (.int (18 : Int32))]) (rest := []) X hx hZ hown e0 (rm2 l Z a0 hw x0 (18 : Int32) h0 n0) (hw _ (List.mem_of_getElem? (i := 5) rfl)) (hw _ (List.mem_of_getElem? (i := 6) rfl)) (hw _ (List.mem_of_getElem? (i := 7) rfl)) (hw _ (List.mem_of_getElem? (i := 8) rfl)) (by decide) (by decide) (W := 0) (by decide) (by decide) (by decide) (by rw [hml]; rfl) (lenOf pd_1 rfl) (Nat.le_refl _) rfl (hb hby at_97) (pc' := 100) rfl (fun T5 L5 v5 X5 hQ5 => ?_)
    obtain ⟨rfl, N5q, e5⟩ := hQ5
    have N5 := Fr.app N0 N5q
    have X5 : Stand p l e room_1 s m _ below meth c T5 _ 0 0 := X5
    show Go p e below s room_1.cells room_1.slots _ T5 (mkF m 100 #[.val (.long x0), .second, .val (.int x2), .val (.int x3), .val (.int x4), .val (.int x5), .val (.long x6), .second, .val (.int x8), .unset] [(.int (K2_0 x0 (18 : Int32)))])
    refine w_iload X5 hx (hb hby at_100) (pc' := 102) rfl rfl ?_
    refine w_icmp_eq X5 hx (hb hby at_102) (pf := 105) (pt := 176) rfl (by decide) (by decide) (fun hc102 => ?_) (fun hc102 => ?_)
    · rw [if_pos hc102]
      refine w_iconst (v := 1) X5 hx (hb hby at_176) (pc' := 177) rfl rfl ?_
      refine w_goto X5 hx (hb hby at_177) (pc' := 181) (by decide) (by decide) ?_
      exact bk0_181 X5 hx hZ hw hby hml hown hret hlk e5 N5 x0 x2 x3 x4 x5 x6 x8 (1 : Int32)
    · rw [if_neg hc102]
      exact bk0_105 X5 hx hZ hw hby hml hown hret hlk e5 N5 x0 x2 x3 x4 x5 x6 x8
def K0_71 (x0 : Int64) (x4 : Int32) (x5 : Int32) (x8 : Int32) : Int32 :=
  (if x4 < (3 : Int32) then (K0_88 x0 x4 x5 x8)
  else (if (K2_0 x0 (12 : Int32)) = x5 then (K0_181 x8 (1 : Int32))
   else (K0_88 x0 x4 x5 x8)))
set_option maxRecDepth 65536 in
set_option maxHeartbeats 4000000 in
theorem bk0_71 {p : Program} {l : Launch} {e : Env} {s : State} {m : MethodId} {args : Array Value} {below : List Frame} {meth : Method} {c : Code} {T : State} {locs : List Loc} {Z : State} {a0 : Array Value} {h0 : Heap} {n0 : Nat} (X : Stand p l e room_1 s m args below meth c T locs 0 0) (hx : p.tables.exec = Jvm.exec) (hZ : Z.Warmed39 s.vm) (hw : ∀ d ∈ tables_1, d.before a0 Z = true) (hby : c.code = code) (hml : c.maxLocals = 10) (hown : s.vm.findClass "com/example/vaglio/vaglio/filter/BlockedFilterPositionsMaskPinLaw" = some m.cls) (hret : meth.sig.returnType = (some .boolean)) (hlk : meth.locks = false) (e0 : T.heap = h0) (N0 : Fr n0 locs) (x0 : Int64) (x2 : Int32) (x3 : Int32) (x4 : Int32) (x5 : Int32) (x6 : Int64) (x8 : Int32) :
    Go p e below s room_1.cells room_1.slots (QL (some (.int (K0_71 x0 x4 x5 x8))) n0) T (mkF m 71 #[.val (.long x0), .second, .val (.int x2), .val (.int x3), .val (.int x4), .val (.int x5), .val (.long x6), .second, .val (.int x8), .unset] []) := by
  rw [K0_71]
  refine w_iload X hx (hb hby at_71) (pc' := 73) rfl rfl ?_
  refine w_iconst (v := 3) X hx (hb hby at_73) (pc' := 74) rfl rfl ?_
  refine w_icmp_lt X hx (hb hby at_74) (pf := 77) (pt := 88) rfl (by decide) (by decide) (fun hc74 => ?_) (fun hc74 => ?_)
  · rw [if_pos hc74]
    exact bk0_88 X hx hZ hw hby hml hown hret hlk e0 N0 x0 x2 x3 x4 x5 x6 x8
  · rw [if_neg hc74]
    refine w_lloadN X hx (hb hby at_77) (pc' := 78) rfl rfl ?_
    refine w_bipush (v := 12) X hx (hb hby at_78) (pc' := 80) rfl rfl ?_
    refine w_callS (argsL := [(.long x0), (.int (12 : Int32))]) (rest := []) X hx hZ hown e0 (rm2 l Z a0 hw x0 (12 : Int32) h0 n0) (hw _ (List.mem_of_getElem? (i := 5) rfl)) (hw _ (List.mem_of_getElem? (i := 6) rfl)) (hw _ (List.mem_of_getElem? (i := 7) rfl)) (hw _ (List.mem_of_getElem? (i := 8) rfl)) (by decide) (by decide) (W := 0) (by decide) (by decide) (by decide) (by rw [hml]; rfl) (lenOf pd_1 rfl) (Nat.le_refl _) rfl (hb hby at_80) (pc' := 83) rfl (fun T4 L4 v4 X4 hQ4 => ?_)
    obtain ⟨rfl, N4q, e4⟩ := hQ4
    have N4 := Fr.app N0 N4q
    have X4 : Stand p l e room_1 s m _ below meth c T4 _ 0 0 := X4
    show Go p e below s room_1.cells room_1.slots _ T4 (mkF m 83 #[.val (.long x0), .second, .val (.int x2), .val (.int x3), .val (.int x4), .val (.int x5), .val (.long x6), .second, .val (.int x8), .unset] [(.int (K2_0 x0 (12 : Int32)))])
    refine w_iload X4 hx (hb hby at_83) (pc' := 85) rfl rfl ?_
    refine w_icmp_eq X4 hx (hb hby at_85) (pf := 88) (pt := 176) rfl (by decide) (by decide) (fun hc85 => ?_) (fun hc85 => ?_)
    · rw [if_pos hc85]
      refine w_iconst (v := 1) X4 hx (hb hby at_176) (pc' := 177) rfl rfl ?_
      refine w_goto X4 hx (hb hby at_177) (pc' := 181) (by decide) (by decide) ?_
      exact bk0_181 X4 hx hZ hw hby hml hown hret hlk e4 N4 x0 x2 x3 x4 x5 x6 x8 (1 : Int32)
    · rw [if_neg hc85]
      exact bk0_88 X4 hx hZ hw hby hml hown hret hlk e4 N4 x0 x2 x3 x4 x5 x6 x8
def K0_42 (x0 : Int64) (x4 : Int32) (x5 : Int32) (y0 : Int32) : Int32 :=
  (if (K2_0 x0 (0 : Int32)) = x5 then (K0_181 y0 (1 : Int32))
  else (if x4 < (2 : Int32) then (K0_71 x0 x4 x5 y0)
   else (if (K2_0 x0 (6 : Int32)) = x5 then (K0_181 y0 (1 : Int32))
    else (K0_71 x0 x4 x5 y0))))
set_option maxRecDepth 65536 in
set_option maxHeartbeats 4000000 in
theorem bk0_42 {p : Program} {l : Launch} {e : Env} {s : State} {m : MethodId} {args : Array Value} {below : List Frame} {meth : Method} {c : Code} {T : State} {locs : List Loc} {Z : State} {a0 : Array Value} {h0 : Heap} {n0 : Nat} (X : Stand p l e room_1 s m args below meth c T locs 0 0) (hx : p.tables.exec = Jvm.exec) (hZ : Z.Warmed39 s.vm) (hw : ∀ d ∈ tables_1, d.before a0 Z = true) (hby : c.code = code) (hml : c.maxLocals = 10) (hown : s.vm.findClass "com/example/vaglio/vaglio/filter/BlockedFilterPositionsMaskPinLaw" = some m.cls) (hret : meth.sig.returnType = (some .boolean)) (hlk : meth.locks = false) (e0 : T.heap = h0) (N0 : Fr n0 locs) (x0 : Int64) (x2 : Int32) (x3 : Int32) (x4 : Int32) (x5 : Int32) (x6 : Int64) (y0 : Int32) :
    Go p e below s room_1.cells room_1.slots (QL (some (.int (K0_42 x0 x4 x5 y0))) n0) T (mkF m 42 #[.val (.long x0), .second, .val (.int x2), .val (.int x3), .val (.int x4), .val (.int x5), .val (.long x6), .second, .unset, .unset] [(.int y0)]) := by
  rw [K0_42]
  refine w_istore (Ls' := #[.val (.long x0), .second, .val (.int x2), .val (.int x3), .val (.int x4), .val (.int x5), .val (.long x6), .second, .val (.int y0), .unset]) X hx (hb hby at_42) (pc' := 44) rfl rfl ?_
  refine w_lloadN X hx (hb hby at_44) (pc' := 45) rfl rfl ?_
  refine w_iconst (v := 0) X hx (hb hby at_45) (pc' := 46) rfl rfl ?_
  refine w_callS (argsL := [(.long x0), (.int (0 : Int32))]) (rest := []) X hx hZ hown e0 (rm2 l Z a0 hw x0 (0 : Int32) h0 n0) (hw _ (List.mem_of_getElem? (i := 5) rfl)) (hw _ (List.mem_of_getElem? (i := 6) rfl)) (hw _ (List.mem_of_getElem? (i := 7) rfl)) (hw _ (List.mem_of_getElem? (i := 8) rfl)) (by decide) (by decide) (W := 0) (by decide) (by decide) (by decide) (by rw [hml]; rfl) (lenOf pd_1 rfl) (Nat.le_refl _) rfl (hb hby at_46) (pc' := 49) rfl (fun T2 L2 v2 X2 hQ2 => ?_)
  obtain ⟨rfl, N2q, e2⟩ := hQ2
  have N2 := Fr.app N0 N2q
  have X2 : Stand p l e room_1 s m _ below meth c T2 _ 0 0 := X2
  show Go p e below s room_1.cells room_1.slots _ T2 (mkF m 49 #[.val (.long x0), .second, .val (.int x2), .val (.int x3), .val (.int x4), .val (.int x5), .val (.long x6), .second, .val (.int y0), .unset] [(.int (K2_0 x0 (0 : Int32)))])
  refine w_iload X2 hx (hb hby at_49) (pc' := 51) rfl rfl ?_
  refine w_icmp_eq X2 hx (hb hby at_51) (pf := 54) (pt := 176) rfl (by decide) (by decide) (fun hc51 => ?_) (fun hc51 => ?_)
  · rw [if_pos hc51]
    refine w_iconst (v := 1) X2 hx (hb hby at_176) (pc' := 177) rfl rfl ?_
    refine w_goto X2 hx (hb hby at_177) (pc' := 181) (by decide) (by decide) ?_
    exact bk0_181 X2 hx hZ hw hby hml hown hret hlk e2 N2 x0 x2 x3 x4 x5 x6 y0 (1 : Int32)
  · rw [if_neg hc51]
    refine w_iload X2 hx (hb hby at_54) (pc' := 56) rfl rfl ?_
    refine w_iconst (v := 2) X2 hx (hb hby at_56) (pc' := 57) rfl rfl ?_
    refine w_icmp_lt X2 hx (hb hby at_57) (pf := 60) (pt := 71) rfl (by decide) (by decide) (fun hc57 => ?_) (fun hc57 => ?_)
    · rw [if_pos hc57]
      exact bk0_71 X2 hx hZ hw hby hml hown hret hlk e2 N2 x0 x2 x3 x4 x5 x6 y0
    · rw [if_neg hc57]
      refine w_lloadN X2 hx (hb hby at_60) (pc' := 61) rfl rfl ?_
      refine w_bipush (v := 6) X2 hx (hb hby at_61) (pc' := 63) rfl rfl ?_
      refine w_callS (argsL := [(.long x0), (.int (6 : Int32))]) (rest := []) X2 hx hZ hown e2 (rm2 l Z a0 hw x0 (6 : Int32) h0 n0) (hw _ (List.mem_of_getElem? (i := 5) rfl)) (hw _ (List.mem_of_getElem? (i := 6) rfl)) (hw _ (List.mem_of_getElem? (i := 7) rfl)) (hw _ (List.mem_of_getElem? (i := 8) rfl)) (by decide) (by decide) (W := 0) (by decide) (by decide) (by decide) (by rw [hml]; rfl) (lenOf pd_1 rfl) (Nat.le_refl _) rfl (hb hby at_63) (pc' := 66) rfl (fun T3 L3 v3 X3 hQ3 => ?_)
      obtain ⟨rfl, N3q, e3⟩ := hQ3
      have N3 := Fr.app N2 N3q
      have X3 : Stand p l e room_1 s m _ below meth c T3 _ 0 0 := X3
      show Go p e below s room_1.cells room_1.slots _ T3 (mkF m 66 #[.val (.long x0), .second, .val (.int x2), .val (.int x3), .val (.int x4), .val (.int x5), .val (.long x6), .second, .val (.int y0), .unset] [(.int (K2_0 x0 (6 : Int32)))])
      refine w_iload X3 hx (hb hby at_66) (pc' := 68) rfl rfl ?_
      refine w_icmp_eq X3 hx (hb hby at_68) (pf := 71) (pt := 176) rfl (by decide) (by decide) (fun hc68 => ?_) (fun hc68 => ?_)
      · rw [if_pos hc68]
        refine w_iconst (v := 1) X3 hx (hb hby at_176) (pc' := 177) rfl rfl ?_
        refine w_goto X3 hx (hb hby at_177) (pc' := 181) (by decide) (by decide) ?_
        exact bk0_181 X3 hx hZ hw hby hml hown hret hlk e3 N3 x0 x2 x3 x4 x5 x6 y0 (1 : Int32)
      · rw [if_neg hc68]
        exact bk0_71 X3 hx hZ hw hby hml hown hret hlk e3 N3 x0 x2 x3 x4 x5 x6 y0
def K0_0 (x0 : Int64) (x1 : Int32) (x2 : Int32) : Int32 :=
  (if ((jlushr (K1_0 x0 (((x1 &&& (2147483647 : Int32)) % (8 : Int32)) + (1 : Int32))) (x2 &&& (63 : Int32))) &&& (1 : Int64)) = (0 : Int64) then (K0_42 x0 (((x1 &&& (2147483647 : Int32)) % (8 : Int32)) + (1 : Int32)) (x2 &&& (63 : Int32)) (0 : Int32))
  else (K0_42 x0 (((x1 &&& (2147483647 : Int32)) % (8 : Int32)) + (1 : Int32)) (x2 &&& (63 : Int32)) (1 : Int32)))
set_option maxRecDepth 65536 in
set_option maxHeartbeats 4000000 in
theorem bk0_0 {p : Program} {l : Launch} {e : Env} {s : State} {m : MethodId} {args : Array Value} {below : List Frame} {meth : Method} {c : Code} {T : State} {locs : List Loc} {Z : State} {a0 : Array Value} {h0 : Heap} {n0 : Nat} (X : Stand p l e room_1 s m args below meth c T locs 0 0) (hx : p.tables.exec = Jvm.exec) (hZ : Z.Warmed39 s.vm) (hw : ∀ d ∈ tables_1, d.before a0 Z = true) (hby : c.code = code) (hml : c.maxLocals = 10) (hown : s.vm.findClass "com/example/vaglio/vaglio/filter/BlockedFilterPositionsMaskPinLaw" = some m.cls) (hret : meth.sig.returnType = (some .boolean)) (hlk : meth.locks = false) (e0 : T.heap = h0) (N0 : Fr n0 locs) (x0 : Int64) (x1 : Int32) (x2 : Int32) :
    Go p e below s room_1.cells room_1.slots (QL (some (.int (K0_0 x0 x1 x2))) n0) T (mkF m 0 #[.val (.long x0), .second, .val (.int x1), .val (.int x2), .unset, .unset, .unset, .unset, .unset, .unset] []) := by
  rw [K0_0]
  refine w_iloadN X hx (hb hby at_0) (pc' := 1) rfl rfl ?_
  refine w_ldc X hx hZ hown (hw _ (List.mem_of_getElem? (i := 0) rfl)) (hb hby at_1) (pc' := 3) rfl ?_
  refine w_iand X hx (hb hby at_3) (pc' := 4) rfl ?_
  refine w_bipush (v := 8) X hx (hb hby at_4) (pc' := 6) rfl rfl ?_
  refine w_irem X hx (hb hby at_6) (pc' := 7) rfl (by decide) ?_
  refine w_iconst (v := 1) X hx (hb hby at_7) (pc' := 8) rfl rfl ?_
  refine w_iadd X hx (hb hby at_8) (pc' := 9) rfl ?_
  refine w_istore (Ls' := #[.val (.long x0), .second, .val (.int x1), .val (.int x2), .val (.int (((x1 &&& (2147483647 : Int32)) % (8 : Int32)) + (1 : Int32))), .unset, .unset, .unset, .unset, .unset]) X hx (hb hby at_9) (pc' := 11) rfl rfl ?_
  refine w_iloadN X hx (hb hby at_11) (pc' := 12) rfl rfl ?_
  refine w_bipush (v := 63) X hx (hb hby at_12) (pc' := 14) rfl rfl ?_
  refine w_iand X hx (hb hby at_14) (pc' := 15) rfl ?_
  refine w_istore (Ls' := #[.val (.long x0), .second, .val (.int x1), .val (.int x2), .val (.int (((x1 &&& (2147483647 : Int32)) % (8 : Int32)) + (1 : Int32))), .val (.int (x2 &&& (63 : Int32))), .unset, .unset, .unset, .unset]) X hx (hb hby at_15) (pc' := 17) rfl rfl ?_
  refine w_lloadN X hx (hb hby at_17) (pc' := 18) rfl rfl ?_
  refine w_iload X hx (hb hby at_18) (pc' := 20) rfl rfl ?_
  refine w_callS (argsL := [(.long x0), (.int (((x1 &&& (2147483647 : Int32)) % (8 : Int32)) + (1 : Int32)))]) (rest := []) X hx hZ hown e0 (rm1 l Z a0 hw x0 (((x1 &&& (2147483647 : Int32)) % (8 : Int32)) + (1 : Int32)) h0 n0) (hw _ (List.mem_of_getElem? (i := 1) rfl)) (hw _ (List.mem_of_getElem? (i := 2) rfl)) (hw _ (List.mem_of_getElem? (i := 3) rfl)) (hw _ (List.mem_of_getElem? (i := 4) rfl)) (by decide) (by decide) (W := 0) (by decide) (by decide) (by decide) (by rw [hml]; rfl) (lenOf pd_0 rfl) (Nat.le_refl _) rfl (hb hby at_20) (pc' := 23) rfl (fun T1 L1 v1 X1 hQ1 => ?_)
  obtain ⟨rfl, N1q, e1⟩ := hQ1
  have N1 := Fr.app N0 N1q
  have X1 : Stand p l e room_1 s m _ below meth c T1 _ 0 0 := X1
  show Go p e below s room_1.cells room_1.slots _ T1 (mkF m 23 #[.val (.long x0), .second, .val (.int x1), .val (.int x2), .val (.int (((x1 &&& (2147483647 : Int32)) % (8 : Int32)) + (1 : Int32))), .val (.int (x2 &&& (63 : Int32))), .unset, .unset, .unset, .unset] [(.long (K1_0 x0 (((x1 &&& (2147483647 : Int32)) % (8 : Int32)) + (1 : Int32))))])
  refine w_lstore (Ls' := #[.val (.long x0), .second, .val (.int x1), .val (.int x2), .val (.int (((x1 &&& (2147483647 : Int32)) % (8 : Int32)) + (1 : Int32))), .val (.int (x2 &&& (63 : Int32))), .val (.long (K1_0 x0 (((x1 &&& (2147483647 : Int32)) % (8 : Int32)) + (1 : Int32)))), .second, .unset, .unset]) X1 hx (hb hby at_23) (pc' := 25) rfl rfl ?_
  refine w_lload X1 hx (hb hby at_25) (pc' := 27) rfl rfl ?_
  refine w_iload X1 hx (hb hby at_27) (pc' := 29) rfl rfl ?_
  refine w_lushr X1 hx (hb hby at_29) (pc' := 30) rfl ?_
  refine w_lconst (v := 1) X1 hx (hb hby at_30) (pc' := 31) rfl rfl ?_
  refine w_land X1 hx (hb hby at_31) (pc' := 32) rfl ?_
  refine w_lconst (v := 0) X1 hx (hb hby at_32) (pc' := 33) rfl rfl ?_
  refine w_lcmp X1 hx (hb hby at_33) (pc' := 34) rfl ?_
  refine w_ifL_eq X1 hx (hb hby at_34) (pf := 37) (pt := 41) rfl (by decide) (by decide) (fun hc34 => ?_) (fun hc34 => ?_)
  · rw [if_pos hc34]
    refine w_iconst (v := 0) X1 hx (hb hby at_41) (pc' := 42) rfl rfl ?_
    exact bk0_42 X1 hx hZ hw hby hml hown hret hlk e1 N1 x0 x1 x2 (((x1 &&& (2147483647 : Int32)) % (8 : Int32)) + (1 : Int32)) (x2 &&& (63 : Int32)) (K1_0 x0 (((x1 &&& (2147483647 : Int32)) % (8 : Int32)) + (1 : Int32))) (0 : Int32)
  · rw [if_neg hc34]
    refine w_iconst (v := 1) X1 hx (hb hby at_37) (pc' := 38) rfl rfl ?_
    refine w_goto X1 hx (hb hby at_38) (pc' := 42) (by decide) (by decide) ?_
    exact bk0_42 X1 hx hZ hw hby hml hown hret hlk e1 N1 x0 x1 x2 (((x1 &&& (2147483647 : Int32)) % (8 : Int32)) + (1 : Int32)) (x2 &&& (63 : Int32)) (K1_0 x0 (((x1 &&& (2147483647 : Int32)) % (8 : Int32)) + (1 : Int32))) (1 : Int32)
theorem ef_0 (m : MethodId) (x0 : Int64) (x1 : Int32) (x2 : Int32) : entryFrame m #[(.long x0), (.int x1), (.int x2)] maxLocals = mkF m 0 #[.val (.long x0), .second, .val (.int x1), .val (.int x2), .unset, .unset, .unset, .unset, .unset, .unset] [] := by first | (simp [entryFrame, mkF, argsToLocals, Value.category, maxLocals]; done) | rfl
theorem rm0 (l : Launch) (Z : State) (a0 : Array Value) (hw : ∀ d ∈ tables_1, d.before a0 Z = true) (x0 : Int64) (x1 : Int32) (x2 : Int32) (h0 : Heap) (n0 : Nat) :
    Con l Z x code maxLocals ret room_1 #[(.long x0), (.int x1), (.int x2)] h0 (QL (some (.int (K0_0 x0 x1 x2))) n0) := by
  refine Con.of (plainFor_of_name (by first | (simp [plainName, overriddenIn]; done) | decide +kernel)) ?_
  intro p e s m below meth c T X hx hZ hby hml hown hnm hret hlk e0
  rw [ef_0]
  exact bk0_0 X hx hZ hw hby hml hown hret hlk e0 (Fr.nil n0) x0 x1 x2
theorem own_m (x m : Int32) {k : Nat} (hk : k < 32) (hm : m.toBitVec.toNat = 2 ^ k - 1) : 0 ≤ (x &&& m).toInt ∧ (x &&& m).toInt < 2 ^ k := by
  rw [Jvm.Kit.i32_mask x m hk hm]
  exact ⟨Int.emod_nonneg _ (by have : (0 : Int) < 2 ^ k := Int.pow_pos (by decide); omega), Int.emod_lt_of_pos _ (Int.pow_pos (by decide))⟩
theorem own_one : (1 : Int32).toInt = 1 := by decide
theorem own_zero : (0 : Int32).toInt = 0 := by decide
theorem own_toInt {x y : Int32} (h : x.toInt = y.toInt) : x = y := Int32.toInt_inj.mp h
theorem own_and1 (x : Int32) : x &&& 1 = 0 ∨ x &&& 1 = 1 := and_one x
theorem own_and3 (x : Int32) : x &&& 3 = 0 ∨ x &&& 3 = 1 ∨ x &&& 3 = 2 ∨ x &&& 3 = 3 := by
  obtain ⟨h1, h2⟩ := own_m x 3 (k := 2) (by decide) (by decide)
  have e1 : (1 : Int32).toInt = 1 := by decide
  have e2 : (2 : Int32).toInt = 2 := by decide
  have e3 : (3 : Int32).toInt = 3 := by decide
  have e0 : (0 : Int32).toInt = 0 := by decide
  have : (x &&& 3).toInt = 0 ∨ (x &&& 3).toInt = 1 ∨ (x &&& 3).toInt = 2 ∨ (x &&& 3).toInt = 3 := by omega
  rcases this with h | h | h | h
  · exact Or.inl (own_toInt (h.trans e0.symm))
  · exact Or.inr (Or.inl (own_toInt (h.trans e1.symm)))
  · exact Or.inr (Or.inr (Or.inl (own_toInt (h.trans e2.symm))))
  · exact Or.inr (Or.inr (Or.inr (own_toInt (h.trans e3.symm))))
theorem own_b01 {c : Prop} [Decidable c] {v : Int32} (h : v = if c then 0 else 1) : v = 0 ∨ v = 1 := by subst h; split <;> simp
theorem own_b10 {c : Prop} [Decidable c] {v : Int32} (h : v = if c then 1 else 0) : v = 0 ∨ v = 1 := by subst h; split <;> simp
theorem own_dist (y : Int32) : (y &&& 0x3f).toInt64.toUInt64.toNat = (y.toInt % 64).toNat := by
  have h1 : (y &&& 63).toInt = y.toInt % 2 ^ 6 := Jvm.Kit.i32_mask y 63 (k := 6) (by decide) (by decide)
  have h2 : (y &&& 63).toInt64.toInt = (y &&& 63).toInt := Int32.toInt_toInt64 _
  have h3 : ((y &&& 63).toInt64.toUInt64.toNat : Int) = (y &&& 63).toInt64.toInt := by
    have h4 : (y &&& 63).toInt64.toInt = (y &&& 63).toInt64.toBitVec.toInt := rfl
    have h5 : (y &&& 63).toInt64.toUInt64.toNat = (y &&& 63).toInt64.toBitVec.toNat := rfl
    have h6 : 0 ≤ (y &&& 63).toInt64.toBitVec.toInt := by rw [← h4, h2, h1]; omega
    rw [h4, h5, BitVec.toInt_eq_toNat_cond] at *
    have := (y &&& 63).toInt64.toBitVec.isLt
    split at h6 <;> split <;> omega
  rw [show (0x3f : Int32) = 63 from rfl]
  omega
theorem own_lushr_bv (x : Int64) (y : Int32) : (jlushr x y).toBitVec = x.toBitVec >>> (y.toInt % 64).toNat := by
  show (x.toUInt64 >>> (y &&& 0x3f).toInt64.toUInt64).toBitVec = _
  rw [UInt64.toBitVec_shiftRight]
  have := own_dist y
  rw [BitVec.ushiftRight_eq']
  have e : ((y &&& 0x3f).toInt64.toUInt64.toBitVec % 64).toNat = (y.toInt % 64).toNat := by
    rw [BitVec.toNat_umod]
    show (y &&& 0x3f).toInt64.toUInt64.toNat % 64 = _
    rw [this]; omega
  rw [e]
  rfl
theorem own_lushr_nat (x : Int64) (y : Int32) : (jlushr x y).toBitVec.toNat = x.toBitVec.toNat / 2 ^ (y.toInt % 64).toNat := by
  rw [own_lushr_bv, BitVec.toNat_ushiftRight, Nat.shiftRight_eq_div_pow]
theorem own_bit (m : Int64) (p : Int32) (h0 : 0 ≤ p.toInt) (h : p.toInt < 64) : ((jlushr m p &&& 1) = 0) ↔ m.toBitVec.getLsbD p.toInt.toNat = false := by
  rw [← Int64.toBitVec_inj, Int64.toBitVec_and, own_lushr_bv]
  have e : (p.toInt % 64).toNat = p.toInt.toNat := by omega
  rw [e]
  have e1 : (1 : Int64).toBitVec = 1#64 := rfl
  have e0 : (0 : Int64).toBitVec = 0#64 := rfl
  rw [e1, e0, ← BitVec.toNat_inj, BitVec.toNat_and, BitVec.toNat_ushiftRight]
  rw [show (1#64).toNat = 1 from rfl, show (0#64).toNat = 0 from rfl, Nat.and_one_is_mod]
  rw [BitVec.getLsbD, Nat.testBit]
  rw [Nat.and_comm, Nat.and_one_is_mod]
  simp
theorem own_smod (d : Int32) : ((d &&& 0x3f).toInt64.toBitVec.smod 64).toNat = (d.toInt % 64).toNat := by
  have h1 := own_dist d
  have h2 : (d &&& 0x3f).toInt64.toBitVec.toNat = (d.toInt % 64).toNat := h1
  have h3 : (d &&& 0x3f).toInt64.toBitVec = BitVec.ofNat 64 (d.toInt % 64).toNat := by
    apply BitVec.eq_of_toNat_eq
    rw [h2, BitVec.toNat_ofNat]; omega
  rw [h3]
  have h4 : (d.toInt % 64).toNat < 64 := by omega
  generalize (d.toInt % 64).toNat = n at *
  have : ∀ n, n < 64 → ((BitVec.ofNat 64 n).smod 64).toNat = n := by decide
  exact this n h4
theorem own_shl_bv (x : Int64) (d : Int32) : (x <<< (d &&& 0x3f).toInt64).toBitVec = x.toBitVec <<< (d.toInt % 64).toNat := by
  rw [Int64.toBitVec_shiftLeft, BitVec.shiftLeft_eq', own_smod]
theorem own_bit1 (d p : Int32) (h0 : 0 ≤ p.toInt) (h : p.toInt < 64) : ((1 : Int64) <<< (d &&& 0x3f).toInt64).toBitVec.getLsbD p.toInt.toNat = decide ((d &&& 63) = p) := by
  rw [own_shl_bv, show (1 : Int64).toBitVec = 1#64 from rfl, BitVec.getLsbD_shiftLeft]
  have h1 : (d &&& 63).toInt = d.toInt % 2 ^ 6 := Jvm.Kit.i32_mask d 63 (k := 6) (by decide) (by decide)
  rw [BitVec.getLsbD_one, Bool.eq_iff_iff]
  simp only [Bool.and_eq_true, Bool.not_eq_true', decide_eq_true_eq, decide_eq_false_iff_not]
  rw [← Int32.toInt_inj, h1]
  omega
theorem own_or_bit (a b : Int64) (n : Nat) : (a ||| b).toBitVec.getLsbD n = (a.toBitVec.getLsbD n || b.toBitVec.getLsbD n) := by
  rw [Int64.toBitVec_or, BitVec.getLsbD_or]
theorem own_field (x : Int64) : (x &&& 63).toInt32 = x.toInt32 &&& 63 := by
  rw [Int64.toInt32_and]; rfl
theorem own_u0 (x : Int64) : jlushr x 0 = x := by
  apply Int64.toBitVec_inj.mp
  rw [own_lushr_bv]; simp
theorem own_f (x : Int64) (k p : Int32) : decide (((jlushr x k).toInt32 &&& 63) = p) = decide (K2_0 x k = p) := by rw [K2_0, own_field]
theorem own_f0 (x : Int64) (p : Int32) : decide ((x.toInt32 &&& 63) = p) = decide (K2_0 x 0 = p) := by rw [K2_0, own_u0, own_field]
theorem own_mask (x : Int64) (p c : Int32) (h0 : 0 ≤ p.toInt) (h : p.toInt < 64) : (K1_0 x c).toBitVec.getLsbD p.toInt.toNat = (decide (K2_0 x 0 = p) || (decide (1 < c) && decide (K2_0 x 6 = p)) || (decide (2 < c) && decide (K2_0 x 12 = p)) || (decide (3 < c) && decide (K2_0 x 18 = p)) || (decide (4 < c) && decide (K2_0 x 24 = p)) || (decide (5 < c) && decide (K2_0 x 30 = p)) || (decide (6 < c) && decide (K2_0 x 36 = p)) || (decide (7 < c) && decide (K2_0 x 42 = p))) := by
  have s7 : ∀ m : Int64, (K1_96 x c m).toBitVec.getLsbD p.toInt.toNat = (m.toBitVec.getLsbD p.toInt.toNat || (decide (7 < c) && decide (K2_0 x 42 = p))) := fun m => by
    rw [K1_96, ← own_f]; by_cases q : 7 < c <;> simp only [q, if_true, if_false, ↓reduceIte, own_or_bit, own_bit1 _ p h0 h, decide_true, decide_false, Bool.true_and, Bool.false_and, Bool.or_false]
  have s6 : ∀ m : Int64, (K1_80 x c m).toBitVec.getLsbD p.toInt.toNat = (m.toBitVec.getLsbD p.toInt.toNat || (decide (6 < c) && decide (K2_0 x 36 = p)) || (decide (7 < c) && decide (K2_0 x 42 = p))) := fun m => by
    rw [K1_80, ← own_f x 36]; by_cases q : 6 < c <;> simp only [q, if_true, if_false, ↓reduceIte, s7, own_or_bit, own_bit1 _ p h0 h, decide_true, decide_false, Bool.true_and, Bool.false_and, Bool.or_false]
  have s5 : ∀ m : Int64, (K1_65 x c m).toBitVec.getLsbD p.toInt.toNat = (m.toBitVec.getLsbD p.toInt.toNat || (decide (5 < c) && decide (K2_0 x 30 = p)) || (decide (6 < c) && decide (K2_0 x 36 = p)) || (decide (7 < c) && decide (K2_0 x 42 = p))) := fun m => by
    rw [K1_65, ← own_f x 30]; by_cases q : 5 < c <;> simp only [q, if_true, if_false, ↓reduceIte, s6, own_or_bit, own_bit1 _ p h0 h, decide_true, decide_false, Bool.true_and, Bool.false_and, Bool.or_false]
  have s4 : ∀ m : Int64, (K1_50 x c m).toBitVec.getLsbD p.toInt.toNat = (m.toBitVec.getLsbD p.toInt.toNat || (decide (4 < c) && decide (K2_0 x 24 = p)) || (decide (5 < c) && decide (K2_0 x 30 = p)) || (decide (6 < c) && decide (K2_0 x 36 = p)) || (decide (7 < c) && decide (K2_0 x 42 = p))) := fun m => by
    rw [K1_50, ← own_f x 24]; by_cases q : 4 < c <;> simp only [q, if_true, if_false, ↓reduceIte, s5, own_or_bit, own_bit1 _ p h0 h, decide_true, decide_false, Bool.true_and, Bool.false_and, Bool.or_false]
  have s3 : ∀ m : Int64, (K1_35 x c m).toBitVec.getLsbD p.toInt.toNat = (m.toBitVec.getLsbD p.toInt.toNat || (decide (3 < c) && decide (K2_0 x 18 = p)) || (decide (4 < c) && decide (K2_0 x 24 = p)) || (decide (5 < c) && decide (K2_0 x 30 = p)) || (decide (6 < c) && decide (K2_0 x 36 = p)) || (decide (7 < c) && decide (K2_0 x 42 = p))) := fun m => by
    rw [K1_35, ← own_f x 18]; by_cases q : 3 < c <;> simp only [q, if_true, if_false, ↓reduceIte, s4, own_or_bit, own_bit1 _ p h0 h, decide_true, decide_false, Bool.true_and, Bool.false_and, Bool.or_false]
  have s2 : ∀ m : Int64, (K1_20 x c m).toBitVec.getLsbD p.toInt.toNat = (m.toBitVec.getLsbD p.toInt.toNat || (decide (2 < c) && decide (K2_0 x 12 = p)) || (decide (3 < c) && decide (K2_0 x 18 = p)) || (decide (4 < c) && decide (K2_0 x 24 = p)) || (decide (5 < c) && decide (K2_0 x 30 = p)) || (decide (6 < c) && decide (K2_0 x 36 = p)) || (decide (7 < c) && decide (K2_0 x 42 = p))) := fun m => by
    rw [K1_20, ← own_f x 12]; by_cases q : 2 < c <;> simp only [q, if_true, if_false, ↓reduceIte, s3, own_or_bit, own_bit1 _ p h0 h, decide_true, decide_false, Bool.true_and, Bool.false_and, Bool.or_false]
  rw [K1_0, ← own_f x 6, ← own_f0]
  by_cases q : 1 < c <;> simp only [q, if_true, if_false, ↓reduceIte, s2, own_or_bit, own_bit1 _ p h0 h, decide_true, decide_false, Bool.true_and, Bool.false_and, Bool.or_false]
theorem own_eight {x c : Int32} (h : c = ((x &&& 2147483647) % 8) + 1) : c = 1 ∨ c = 2 ∨ c = 3 ∨ c = 4 ∨ c = 5 ∨ c = 6 ∨ c = 7 ∨ c = 8 := by
  have h0 := (own_m x 2147483647 (k := 31) (by decide) (by decide)).1
  have l2 : (2 : Int32).toInt = 2 := by decide
  have l3 : (3 : Int32).toInt = 3 := by decide
  have l4 : (4 : Int32).toInt = 4 := by decide
  have l5 : (5 : Int32).toInt = 5 := by decide
  have l6 : (6 : Int32).toInt = 6 := by decide
  have l7 : (7 : Int32).toInt = 7 := by decide
  have l8 : (8 : Int32).toInt = 8 := by decide
  have e1 : ((x &&& 2147483647) % 8).toInt = (x &&& 2147483647).toInt % 8 := by rw [Jvm.Kit.i32_rem_nonneg h0, l8]
  have e2 : c.toInt = (x &&& 2147483647).toInt % 8 + 1 := by rw [h, Jvm.Kit.i32_add (by rw [own_one]; omega) (by rw [own_one]; omega), e1, own_one]
  simp only [← Int32.toInt_inj, own_one, l2, l3, l4, l5, l6, l7, l8]
  omega
theorem own_k0 (x : Int64) {c p : Int32} (hc : c = 1 ∨ c = 2 ∨ c = 3 ∨ c = 4 ∨ c = 5 ∨ c = 6 ∨ c = 7 ∨ c = 8) {y : Int32} (hy : y = if (decide (K2_0 x 0 = p) || (decide (1 < c) && decide (K2_0 x 6 = p)) || (decide (2 < c) && decide (K2_0 x 12 = p)) || (decide (3 < c) && decide (K2_0 x 18 = p)) || (decide (4 < c) && decide (K2_0 x 24 = p)) || (decide (5 < c) && decide (K2_0 x 30 = p)) || (decide (6 < c) && decide (K2_0 x 36 = p)) || (decide (7 < c) && decide (K2_0 x 42 = p))) = true then 1 else 0) : K0_42 x c p y = 1 := by
  by_cases f0 : K2_0 x 0 = p
  · simp [f0] at hy; subst hy; simp [K0_42, K0_181, f0]
  by_cases f1 : K2_0 x 6 = p <;> by_cases f2 : K2_0 x 12 = p <;> by_cases f3 : K2_0 x 18 = p <;> by_cases f4 : K2_0 x 24 = p <;> by_cases f5 : K2_0 x 30 = p <;> by_cases f6 : K2_0 x 36 = p <;> by_cases f7 : K2_0 x 42 = p <;> simp only [f0, f1, f2, f3, f4, f5, f6, f7, decide_true, decide_false, Bool.and_true, Bool.and_false, Bool.or_false, Bool.false_or] at hy <;> rcases hc with rfl | rfl | rfl | rfl | rfl | rfl | rfl | rfl <;> subst hy <;> simp +decide only [K0_42, K0_71, K0_88, K0_105, K0_122, K0_140, K0_158, K0_181, f0, f1, f2, f3, f4, f5, f6, f7, if_true, if_false, ↓reduceIte]
theorem own_law (x : Int64) (a b : Int32) : K0_0 x a b = 1 := by
  have hp := own_m b 63 (k := 6) (by decide) (by decide)
  have hc := own_eight (x := a) rfl
  rw [K0_0]
  generalize ((a &&& 2147483647) % 8) + 1 = c at *
  generalize b &&& 63 = p at *
  have hb := own_bit (K1_0 x c) p hp.1 (by omega)
  rw [own_mask x p c hp.1 (by omega)] at hb
  by_cases q : (jlushr (K1_0 x c) p &&& 1) = 0
  · rw [if_pos q]
    apply own_k0 x hc
    rw [hb.mp q]; rfl
  · rw [if_neg q]
    apply own_k0 x hc
    rw [hb, Bool.not_eq_false] at q
    rw [q]; rfl
set_option maxRecDepth 65536 in
set_option maxHeartbeats 40000000 in
theorem comes_1 {Post : Tables → Env → Array Value → State → Outcome → State → Prop} (hpost : ∀ tb e args s v u, (limb_1_1.after args s (.returned v) u = true ∧ limb_1_2.after args s (.returned v) u = true ∧ True) → FrameEnd s (.returned v) u (Jvm.fieldLocs frame_1_writes args s ++ Jvm.arrayLocs frame_1_arrays args s ++ Jvm.staticLocs frame_1_statics s) 0 0 → Post tb e args s (.returned v) u) :
    ArmFor flags0 classFile x code maxLocals ret World_1 tables_1 room_1 Calls_1 rest_1 Pre_1 Post := by
  intro l hfl _ _ p e ha hc hk s m args below hf hA hF happ hP
  obtain ⟨hcalls, hrest, hpre⟩ := hP
  obtain ⟨-, -, -, hnamed, -, -, -, hat⟩ := (Spec.applies_iff hf).mp happ
  obtain ⟨hg, hn⟩ := and_e (Cond.before_iff.mp (show (Jvm.Cond.and given_1 narrow_1).before args s = true from hpre))
  obtain ⟨g1, g2⟩ := and_e hg
  obtain ⟨g3, g4⟩ := and_e g2
  obtain ⟨g5, g6⟩ := and_e g4
  obtain ⟨w0, w1, w2, rfl⟩ : ∃ w0 w1 w2 : Value, args = #[w0, w1, w2] := by
    have hs : args.size = 3 := by simpa [Cond.value, given_1] using g1
    obtain ⟨L⟩ := args
    match L, hs with
    | [w0, w1, w2], _ => exact ⟨w0, w1, w2, rfl⟩
  have hw := fun d (hd : d ∈ tables_1) => atoms_spec (ws := Jvm.Cond.code x code maxLocals ret :: tables_1) hat d (List.mem_cons_of_mem _ hd)
  obtain ⟨i0, ei0⟩ := isL_v g3
  obtain rfl : w0 = (.long i0) := Option.some.inj ei0
  obtain ⟨i1, ei1⟩ := is_v g5
  obtain rfl : w1 = (.int i1) := Option.some.inj ei1
  obtain ⟨i2, ei2⟩ := is_v g6
  obtain rfl : w2 = (.int i2) := Option.some.inj ei2
  have C := rm0 l s _ hw i0 i1 i2 s.heap s.heap.size
  rw [own_law i0 i1 i2] at C
  obtain ⟨n, o, h1, h2, h3, v, L, rfl, ⟨rfl, N⟩, hq⟩ := C tables_1 p e ha hc hk s m _ below hf ((Spec.applies_iff_loose hf).mp happ).1 ⟨rfl, State.Warmed39.refl s, rfl⟩ trivial
  refine ⟨n, _, h1, h2, h3, hpost _ _ _ _ _ _ ⟨Cond.after_iff.mpr rfl, Cond.after_iff.mpr (eq_i res_at (Term.int_eval (1)) rfl), trivial⟩ ⟨hq.1, hq.2.1, (hq.2.2.sift fun y hy => Or.inr (N y hy)).mono (by decide) (by decide)⟩⟩
theorem main_1_1 : Claimed_1_1 := comes_1 fun _ _ _ _ _ _ h hF => ⟨h.1, hF⟩
theorem main_1_2 : Claimed_1_2 := comes_1 fun _ _ _ _ _ _ h hF => ⟨h.2.1, hF⟩
end Jvm.Pilot.@@N@@
namespace Jvm.Pilot.@@N@@
open Jvm Jvm.ClassFile Sem Op Lib Jvm.Free Jvm.Stand Jvm.Pilot.@@N@@.Jvm.D
/-! MADE BY PROGRAM (witnessworld.py) out of the Statement's table words and the real class files: 10 classes; the members and pool entries that the words name. The judged class is class 1, her method 1. -/
namespace start1
open Jvm.ClassFile
def u (s : String) : CpInfo := .utf8 (stringToUtf16 s)
/-- a pool by its gaps: so many unusable entries, then the entry; so many at the end -/
def gap : Nat → List CpInfo → List CpInfo
  | 0, r => r
  | n + 1, r => .unusable :: gap n r
def poolList (es : List (Nat × CpInfo)) (last : Nat) : List CpInfo := es.foldr (fun e r => gap e.1 (e.2 :: r)) (gap last [])
def pool (es : List (Nat × CpInfo)) (last : Nat) : Array CpInfo := ⟨poolList es last⟩
def fileOf (pool : Array CpInfo) (this : Nat) (attrs : Array Attribute := #[]) (ms : Array MethodInfo := #[]) (fl : Nat := 33) (sup : Nat := 0) (ifs : Array Nat := #[]) (fds : Array FieldInfo := #[]) : ClassFile where
  minorVersion := 0
  majorVersion := 65
  constantPool := pool
  accessFlags := fl
  thisClass := this
  superClass := sup
  interfaces := ifs
  fields := fds
  methods := ms
  attributes := attrs
def plain (name : String) (sup : Option ClassId) : Class where
  name := name
  kind := .ordinary
  loader := none
  accessFlags := 33
  super := sup
  interfaces := #[]
  cf := none
  fields := #[]
  methods := #[]
  instanceTypes := #[]
  staticTypes := #[]
  resolved := #[]
  callSites := []
  init := .initialized
  statics := none
  mirror := none

def pool0 : Array CpInfo := pool [(5, u "<init>"), (0, u "()V"), (1, .class_ 10), (1, u "java/lang/Object")] 113

def k0m0 : Method := { name := "<init>", desc := "()V", sig := { parameters := [], returnType := none }, accessFlags := 1, code := none }
/-- java/lang/Object -/
def k0 : Class := { plain "java/lang/Object" none with
  accessFlags := 33
  interfaces := #[]
  cf := some (fileOf pool0 8 #[] #[{ accessFlags := 1, nameIndex := 5, descriptorIndex := 6, attributes := #[] }] 33 0 #[] #[])
  fields := #[]
  methods := #[k0m0]
  instanceTypes := #[]
  staticTypes := #[]
  resolved := Array.replicate 124 none
  statics := none }

def pool1 : Array CpInfo := pool [(2, .class_ 4), (1, u "java/lang/Object"), (0, u "<init>"), (0, u "()V"), (0, .integer 2147483647), (0, .methodref 9 10), (0, .class_ 11), (0, .nameAndType 12 13), (0, u "com/example/vaglio/vaglio/filter/BlockedFilter"), (0, u "positionsMask"), (0, u "(JI)J"), (0, .methodref 15 16), (0, .class_ 17), (0, .nameAndType 18 19), (0, u "com/example/vaglio/vaglio/filter/BlockedFilterPositionsMaskPinLaw"), (0, u "field"), (0, u "(JI)I"), (0, .long 63), (3, u "law"), (0, u "(JII)Z")] 3

def k1m0 : Method := { name := "<init>", desc := "()V", sig := { parameters := [], returnType := none }, accessFlags := 1, code := none }
def k1c1 : Code := { maxStack := 4, maxLocals := 10, code := code, exceptionTable := #[], attributes := #[] }
def k1m1 : Method := { name := "law", desc := "(JII)Z", sig := { parameters := [.long, .int, .int], returnType := some .boolean }, accessFlags := 9, code := some k1c1 }
def k1c2 : Code := { maxStack := 4, maxLocals := 3, code := method_3_code, exceptionTable := #[], attributes := #[] }
def k1m2 : Method := { name := "field", desc := "(JI)I", sig := { parameters := [.long, .int], returnType := some .int }, accessFlags := 10, code := some k1c2 }
/-- com/example/vaglio/vaglio/filter/BlockedFilterPositionsMaskPinLaw -/
def k1 : Class := { plain "com/example/vaglio/vaglio/filter/BlockedFilterPositionsMaskPinLaw" (some 0) with
  accessFlags := 49
  interfaces := #[]
  cf := some (fileOf pool1 15 #[] #[{ accessFlags := 1, nameIndex := 5, descriptorIndex := 6, attributes := #[] }, { accessFlags := 9, nameIndex := 24, descriptorIndex := 25, attributes := #[] }, { accessFlags := 10, nameIndex := 18, descriptorIndex := 19, attributes := #[] }] 49 2 #[] #[])
  fields := #[]
  methods := #[k1m0, k1m1, k1m2]
  instanceTypes := #[]
  staticTypes := #[]
  resolved := Array.replicate 29 none
  statics := none }

def pool2 : Array CpInfo := pool [(1, .class_ 2), (0, u "com/example/vaglio/vaglio/filter/MembershipFilter"), (0, .class_ 4), (0, u "java/lang/Object")] 20

/-- com/example/vaglio/vaglio/filter/MembershipFilter -/
def k2 : Class := { plain "com/example/vaglio/vaglio/filter/MembershipFilter" (some 0) with
  accessFlags := 1537
  interfaces := #[]
  cf := some (fileOf pool2 1 #[] #[] 1537 3 #[] #[])
  fields := #[]
  methods := #[]
  instanceTypes := #[]
  staticTypes := #[]
  resolved := Array.replicate 25 none
  statics := none }

def pool3 : Array CpInfo := pool [(2, .class_ 4), (1, u "java/lang/Object"), (14, .class_ 21), (1, u "com/example/vaglio/vaglio/filter/BlockedFilter"), (0, u "words"), (0, u "Lcom/example/vaglio/vaglio/core/WordStore;"), (2, u "k"), (0, u "I"), (2, u "g"), (2, u "seed"), (0, u "J"), (4, u "longKeyStart"), (5, u "wordReadsPerMemberQuery"), (15, u "positionsInWordDraw"), (4, u "wordChoiceBits"), (2, u "wideWords"), (9, u "widePositions"), (2, u "narrowPositions"), (7, u "drawsPastWordDraw"), (35, u "(JI)J"), (32, u "positionsMask"), (3, .class_ 164), (0, u "com/example/vaglio/vaglio/filter/MembershipFilter"), (0, u "POSITION_BITS"), (2, u "POSITIONS_PER_DRAW"), (1, u "WORD_CHOICE_MARGIN")] 15

def k3c0 : Code := { maxStack := 7, maxLocals := 5, code := prog_28_method_22_code, exceptionTable := #[], attributes := #[] }
def k3m0 : Method := { name := "positionsMask", desc := "(JI)J", sig := { parameters := [.long, .int], returnType := some .long }, accessFlags := 8, code := some k3c0 }
/-- com/example/vaglio/vaglio/filter/BlockedFilter -/
def k3 : Class := { plain "com/example/vaglio/vaglio/filter/BlockedFilter" (some 0) with
  accessFlags := 49
  interfaces := #[2]
  cf := some (fileOf pool3 19 #[] #[{ accessFlags := 8, nameIndex := 159, descriptorIndex := 126, attributes := #[] }] 49 2 #[163] #[{ accessFlags := 26, nameIndex := 165, descriptorIndex := 27, attributes := #[] }, { accessFlags := 26, nameIndex := 168, descriptorIndex := 27, attributes := #[] }, { accessFlags := 26, nameIndex := 170, descriptorIndex := 27, attributes := #[] }, { accessFlags := 18, nameIndex := 22, descriptorIndex := 23, attributes := #[] }, { accessFlags := 18, nameIndex := 26, descriptorIndex := 27, attributes := #[] }, { accessFlags := 18, nameIndex := 30, descriptorIndex := 27, attributes := #[] }, { accessFlags := 18, nameIndex := 33, descriptorIndex := 34, attributes := #[] }, { accessFlags := 18, nameIndex := 39, descriptorIndex := 34, attributes := #[] }, { accessFlags := 18, nameIndex := 45, descriptorIndex := 27, attributes := #[] }, { accessFlags := 18, nameIndex := 61, descriptorIndex := 27, attributes := #[] }, { accessFlags := 18, nameIndex := 66, descriptorIndex := 34, attributes := #[] }, { accessFlags := 18, nameIndex := 90, descriptorIndex := 27, attributes := #[] }, { accessFlags := 18, nameIndex := 69, descriptorIndex := 27, attributes := #[] }, { accessFlags := 18, nameIndex := 79, descriptorIndex := 27, attributes := #[] }, { accessFlags := 18, nameIndex := 82, descriptorIndex := 27, attributes := #[] }])
  fields := #[{ name := "POSITION_BITS", type := .int, accessFlags := 26, slot := 0, constantValue := 0 }, { name := "POSITIONS_PER_DRAW", type := .int, accessFlags := 26, slot := 1, constantValue := 0 }, { name := "WORD_CHOICE_MARGIN", type := .int, accessFlags := 26, slot := 2, constantValue := 0 }, { name := "words", type := (.object "com/example/vaglio/vaglio/core/WordStore"), accessFlags := 18, slot := 0, constantValue := 0 }, { name := "k", type := .int, accessFlags := 18, slot := 1, constantValue := 0 }, { name := "g", type := .int, accessFlags := 18, slot := 2, constantValue := 0 }, { name := "seed", type := .long, accessFlags := 18, slot := 3, constantValue := 0 }, { name := "longKeyStart", type := .long, accessFlags := 18, slot := 4, constantValue := 0 }, { name := "wordReadsPerMemberQuery", type := .int, accessFlags := 18, slot := 5, constantValue := 0 }, { name := "positionsInWordDraw", type := .int, accessFlags := 18, slot := 6, constantValue := 0 }, { name := "wordChoiceBits", type := .long, accessFlags := 18, slot := 7, constantValue := 0 }, { name := "drawsPastWordDraw", type := .int, accessFlags := 18, slot := 8, constantValue := 0 }, { name := "wideWords", type := .int, accessFlags := 18, slot := 9, constantValue := 0 }, { name := "widePositions", type := .int, accessFlags := 18, slot := 10, constantValue := 0 }, { name := "narrowPositions", type := .int, accessFlags := 18, slot := 11, constantValue := 0 }]
  methods := #[k3m0]
  instanceTypes := #[(.object "com/example/vaglio/vaglio/core/WordStore"), .int, .int, .long, .long, .int, .int, .long, .int, .int, .int, .int]
  staticTypes := #[.int, .int, .int]
  resolved := Array.replicate 186 none
  statics := none }

def pool4 : Array CpInfo := pool [(1, u "java/lang/Cloneable"), (0, .class_ 1), (0, u "java/lang/Object"), (0, .class_ 3)] 3

/-- java/lang/Cloneable -/
def k4 : Class := { plain "java/lang/Cloneable" (some 0) with
  accessFlags := 1537
  interfaces := #[]
  cf := some (fileOf pool4 2 #[] #[] 1537 4 #[] #[])
  fields := #[]
  methods := #[]
  instanceTypes := #[]
  staticTypes := #[]
  resolved := Array.replicate 8 none
  statics := none }

def pool5 : Array CpInfo := pool [(1, u "java/io/Serializable"), (0, .class_ 1), (0, u "java/lang/Object"), (0, .class_ 3)] 3

/-- java/io/Serializable -/
def k5 : Class := { plain "java/io/Serializable" (some 0) with
  accessFlags := 1537
  interfaces := #[]
  cf := some (fileOf pool5 2 #[] #[] 1537 4 #[] #[])
  fields := #[]
  methods := #[]
  instanceTypes := #[]
  staticTypes := #[]
  resolved := Array.replicate 8 none
  statics := none }

/-- the primitive byte -/
def k6 : Class := { plain "byte" none with kind := .primitive 'B', accessFlags := 0x411 }
/-- [B -/
def k7 : Class := { plain "[B" (some 0) with kind := .array 6 .byte, interfaces := #[4, 5], accessFlags := 1041 }

/-- the primitive int -/
def k8 : Class := { plain "int" none with kind := .primitive 'I', accessFlags := 0x411 }
/-- [I -/
def k9 : Class := { plain "[I" (some 0) with kind := .array 8 .int, interfaces := #[4, 5], accessFlags := 1041 }

def heap : Heap := #[]
def classes : Array Class := #[k0, k1, k2, k3, k4, k5, k6, k7, k8, k9]
def interned : List (Array UInt16 × Addr) := []
def slotsUsed : Nat := 0
def theMethod : MethodId := ⟨1, 1⟩
def args0 : Array Value := #[.long 5, .int 6, .int 7]
def aboutOver (below : List Frame) : State where
  vm := { classes := classes, interned := interned.toArray }
  heap := heap
  slotsUsed := slotsUsed
  threads := #[{ frames := .invoking theMethod args0 :: below }]
def below0 : List Frame := [.native { method := ⟨0, 0⟩, args := #[] }]
def about1 : State := aboutOver below0
def p0 : Program := .bare "" "" ""
def e0 : Env := launch0.env 0 0 0
theorem w_frames : about1.frames = Frame.invoking theMethod args0 :: below0 := rfl
set_option maxRecDepth 65536 in
theorem w_args : argsFit about1.vm theMethod args0 = true := by decide +kernel
set_option maxRecDepth 65536 in
theorem w_heap : heapFits about1 = true := by decide +kernel
set_option maxRecDepth 65536 in
theorem w_runnable : about1.curStatus? = some .runnable := by decide +kernel
set_option maxRecDepth 65536 in
theorem w_alone : about1.alone = true := by decide +kernel
set_option maxRecDepth 65536 in
theorem w_named : about1.methodNamed? x = some theMethod := by decide +kernel
set_option maxRecDepth 65536 in
theorem w_hears : about1.hears theMethod below0 = true := by decide +kernel
set_option maxRecDepth 65536 in
theorem w_ripe : about1.ripe theMethod args0 below0 = true := by decide +kernel
theorem w_running : about1.status = .running := rfl
set_option maxRecDepth 65536 in
theorem w_room : about1.hasRoom e0.platform room_1 = true :=
  launch0.hasRoom_least _ room_1 (by decide +kernel) (by decide +kernel) (by decide +kernel) (by decide +kernel) (by decide +kernel) (by decide +kernel)
theorem allAtoms_all (ts : List Jvm.Cond) (a : Array Jvm.Value) (st : Jvm.State) : (allAtoms ts).before a st = ts.all (fun c => c.before a st) := by
  induction ts with
  | nil => rfl
  | cons c t ih =>
    show (Jvm.Cond.and c (allAtoms t)).before a st = _
    rw [Jvm.Cond.before_and, ih, List.all_cons]
def words1 : List Jvm.Cond := Jvm.Cond.code x code maxLocals ret :: tables_1
/-- a 'code' word, met by the world's own term for the bytes: nothing is compared byte by byte -/
theorem code_word {y : MethodName} {bytes : ByteArray} {mx : Nat} {rt : Option FieldType} {a : Array Value} {s : State} {m : MethodId} {meth : Method} {c : Code} (h1 : s.methodNamed? y = some m) (h2 : s.vm.method? m = some meth) (h3 : meth.code = some c) (h4 : c.code = bytes)
    (h5 : (c.maxLocals == mx && c.exceptionTable.isEmpty && decide (c.maxStack ≤ mostOperands) && decide (meth.sig.returnType = rt) && !meth.locks && decide (parseMethodDescriptor y.desc = some meth.sig)) = true) : (Jvm.Cond.code y bytes mx rt).before a s = true := by
  simp only [Bool.and_eq_true, beq_iff_eq, Bool.not_eq_true', decide_eq_true_eq] at h5
  obtain ⟨⟨⟨⟨⟨g1, g2⟩, g3⟩, g4⟩, g5⟩, g6⟩ := h5
  simp [Cond.before, Cond.holds, Cond.value, h1, h2, h3, h4, g1, g2, g3, g4, g5, g6]
def isCode : Jvm.Cond → Bool
  | .code _ _ _ _ => true
  | _ => false
theorem all_split {L : List Jvm.Cond} {P : Jvm.Cond → Bool} (h1 : L.all (fun c => isCode c || P c) = true) (h2 : ∀ c ∈ L.filter isCode, P c = true) : L.all P = true := by
  refine List.all_eq_true.mpr fun c hc => ?_
  have h := List.all_eq_true.mp h1 c hc
  rcases Bool.eq_false_or_eq_true (isCode c) with hi | hi
  · exact h2 c (List.mem_filter.mpr ⟨hc, hi⟩)
  · simpa [hi] using h
set_option maxRecDepth 65536 in
theorem w_c0 : (Jvm.Cond.code x code maxLocals ret).before args0 about1 = true := code_word (m := ⟨1, 1⟩) (meth := k1m1) (c := k1c1) (by decide +kernel) rfl rfl rfl (by decide +kernel)
set_option maxRecDepth 65536 in
theorem w_c1 : (Jvm.Cond.code ({ cls := "com/example/vaglio/vaglio/filter/BlockedFilter", name := "positionsMask", desc := "(JI)J" } : Jvm.MethodName) prog_28_method_22_code (5 : Nat) (Option.some Jvm.ClassFile.FieldType.long)).before args0 about1 = true := code_word (m := ⟨3, 0⟩) (meth := k3m0) (c := k3c0) (by decide +kernel) rfl rfl rfl (by decide +kernel)
set_option maxRecDepth 65536 in
theorem w_c2 : (Jvm.Cond.code ({ cls := "com/example/vaglio/vaglio/filter/BlockedFilterPositionsMaskPinLaw", name := "field", desc := "(JI)I" } : Jvm.MethodName) method_3_code (3 : Nat) (Option.some Jvm.ClassFile.FieldType.int)).before args0 about1 = true := code_word (m := ⟨1, 2⟩) (meth := k1m2) (c := k1c2) (by decide +kernel) rfl rfl rfl (by decide +kernel)
def codes1 : List Jvm.Cond := [Jvm.Cond.code x code maxLocals ret, Jvm.Cond.code ({ cls := "com/example/vaglio/vaglio/filter/BlockedFilter", name := "positionsMask", desc := "(JI)J" } : Jvm.MethodName) prog_28_method_22_code (5 : Nat) (Option.some Jvm.ClassFile.FieldType.long), Jvm.Cond.code ({ cls := "com/example/vaglio/vaglio/filter/BlockedFilterPositionsMaskPinLaw", name := "field", desc := "(JI)I" } : Jvm.MethodName) method_3_code (3 : Nat) (Option.some Jvm.ClassFile.FieldType.int)]
set_option maxRecDepth 65536 in
theorem codes_eq : words1.filter isCode = codes1 := rfl
theorem w_codes : ∀ c ∈ words1.filter isCode, c.before args0 about1 = true := by
  rw [codes_eq]
  intro c hc
  simp only [codes1, List.mem_cons, List.not_mem_nil, or_false] at hc
  rcases hc with rfl | rfl | rfl
  · exact w_c0
  · exact w_c1
  · exact w_c2
set_option maxRecDepth 65536 in
theorem w_t1 : words1.all (fun c => isCode c || c.before args0 about1) = true := by decide +kernel
theorem w_tables : (allAtoms (Jvm.Cond.code x code maxLocals ret :: tables_1)).before args0 about1 = true := by
  rw [allAtoms_all]
  show words1.all (fun c => c.before args0 about1) = true
  refine all_split ?_ w_codes
  rw [w_t1]
set_option maxRecDepth 65536 in
theorem w_case : (Jvm.Cond.and given_1 narrow_1).before args0 about1 = true := by decide +kernel
theorem w_applies : (headSpec (Jvm.Cond.code x code maxLocals ret :: tables_1) room_1).applies x e0.platform about1 = true :=
  (Spec.applies_iff w_frames).mpr ⟨w_running, w_runnable, w_alone, w_named, w_hears, w_ripe, w_room, w_tables⟩
theorem atStart : AtStart classFile x code maxLocals ret World_1 tables_1 room_1 Calls_1 rest_1 Pre_1 launch0 p0 e0 about1 theMethod args0 below0 :=
  ⟨lists_1, trivial, launch0.admits_env _ _ _, launch0.least_env, fairChoices_fair.cas, fairChoices_fair.clock, w_frames, w_args, w_heap, w_applies, trivial, trivial, w_case⟩
end start1
theorem witness_1 : WitnessClaimed_1 := ⟨start1.p0, start1.e0, start1.about1, start1.theMethod, start1.args0, start1.below0, start1.atStart⟩
end Jvm.Pilot.@@N@@
