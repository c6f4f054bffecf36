import JvmDerived
import JvmDerived.Pilot.@@N@@Statement
import JvmDerived.Pilot.@@N@@Code
set_option linter.unusedVariables false
set_option linter.unusedSimpArgs false
@@BLOCK:NumsL.lean.txt@@
namespace Jvm.Pilot.@@N@@
open Jvm Jvm.ClassFile Sem Op Lib Jvm.Free Jvm.Stand Jvm.LawKit Jvm.RoadKit Bundle Jvm.Pilot.@@N@@.Jvm.D
section OwnKit
variable {p : Program} {l : Launch} {e : Env} {R : Room} {s : State} {m : MethodId} {args : Array Value} {below : List Frame} {meth : Method} {c : Code} {T T' : State} {locs : List Loc} {cells slots : Nat} {Z : State} {a0 : Array Value} {h h' : Heap} {cm sm : Nat} {Q : Option Value → Heap → List Loc → Prop} {pc pc' : Nat} {Ls Ls' : Array Slot} {St : List Value}
/-- the walk's goal: from this frame the method comes to its end, and Q holds of what it leaves -/
def Go (p : Program) (e : Env) (below : List Frame) (s : State) (cm sm : Nat) (Q : Option Value → Heap → List Loc → Prop) (T : State) (g : JFrame) : Prop :=
  ∃ s₂ o, Steps p.tables e below (T.setTop g) s₂ ∧ s₂.status = .running ∧ Ended s₂ below o ∧ ∃ v L, o = .returned v ∧ Q v s₂.heap L ∧ FrameEnd s o s₂ L cm sm
theorem Go.st {g g' : JFrame} (q : ∀ t, Steps p.tables e below (T'.setTop g') t → Steps p.tables e below (T.setTop g) t) (k : Go p e below s cm sm Q T' g') : Go p e below s cm sm Q T g := by
  obtain ⟨s₂, o, st, r⟩ := k
  exact ⟨s₂, o, q _ st, r⟩
theorem Go.weak {g : JFrame} {Q' : Option Value → Heap → List Loc → Prop} (k : Go p e below s cm sm Q T g) (q : ∀ v h L, Q v h L → Q' v h L) : Go p e below s cm sm Q' T g := by
  obtain ⟨s₂, o, st, r1, r2, v, L, r3, r4, r5⟩ := k
  exact ⟨s₂, o, st, r1, r2, v, L, r3, q _ _ _ r4, r5⟩
/-- a contract -/
def Con (l : Launch) (Z : State) (y : MethodName) (bytes : ByteArray) (maxL : Nat) (ret : Option FieldType) (rm : Room) (as' : Array Value) (h : Heap) (Q : Option Value → Heap → List Loc → Prop) : Prop :=
  ∀ ws : List Jvm.Cond, MetFree l y (head1 (Jvm.Cond.code y bytes maxL ret :: ws) rm) (fun a U => a = as' ∧ Z.Warmed39 U.vm ∧ U.heap = h) (fun _ _ _ _ _ => True) (fun _ U o U' => ∃ v L, o = .returned v ∧ Q v U'.heap L ∧ FrameEnd U o U' L rm.cells rm.slots)
theorem Con.of {y : MethodName} {bytes : ByteArray} {maxL : Nat} {ret : Option FieldType} {rm : Room} {as' : Array Value} (hpl : plainFor y = true)
    (body : ∀ (p : Program) (e : Env) (s : State) (m : MethodId) (below : List Frame) (meth : Method) (c : Code) (T : State), Stand p l e rm s m as' below meth c T [] 0 0 → p.tables.exec = Jvm.exec → Z.Warmed39 s.vm → c.code = bytes → c.maxLocals = maxL → s.vm.findClass y.cls = some m.cls → meth.name = y.name → meth.sig.returnType = ret → meth.locks = false → T.heap = h → Go p e below s rm.cells rm.slots Q T (entryFrame m as' maxL)) :
    Con l Z y bytes maxL ret rm as' h Q := by
  intro ws
  refine MetFree.of_bodySF hpl hisR ?_
  intro p e s m args below meth c s₁ Bd hml0 hP hK
  obtain ⟨rfl, hZ, hh⟩ := hP
  exact body p e s m below meth c s₁ (Stand.of_body Bd) Bd.exec hZ Bd.bytes hml0 (findClass_of_methodNamed Bd.named) (name_of_methodNamed Bd.named Bd.method).1 Bd.returns Bd.notSynchronized (by rw [← hh, Bd.state]; rfl)
theorem Con.weak {y : MethodName} {bytes : ByteArray} {maxL : Nat} {ret : Option FieldType} {rm : Room} {as' : Array Value} {Q' : Option Value → Heap → List Loc → Prop} (C : Con l Z y bytes maxL ret rm as' h Q) (q : ∀ v h L, Q v h L → Q' v h L) : Con l Z y bytes maxL ret rm as' h Q' := by
  intro ws p e ha hc hk s m args below hf happ hP hK
  obtain ⟨n, o, h1, h2, h3, v, L, r3, r4, r5⟩ := C ws p e ha hc hk s m args below hf happ hP hK
  exact ⟨n, o, h1, h2, h3, v, L, r3, q _ _ _ r4, r5⟩
/-- what a body that writes nothing leaves -/
abbrev QP (v0 : Option Value) (h0 : Heap) (n0 : Nat) : Option Value → Heap → List Loc → Prop := fun v h L => v = v0 ∧ Fr n0 L ∧ h = h0
/-- what a law leaves -/
abbrev QL (v0 : Option Value) (n0 : Nat) : Option Value → Heap → List Loc → Prop := fun v _ L => v = v0 ∧ Fr n0 L
/-- iushr, lushr -/
def jushr (x y : Int32) : Int32 := (x.toUInt32 >>> (y &&& 31).toUInt32).toInt32
def jlushr (x : Int64) (y : Int32) : Int64 := (x.toUInt64 >>> (y &&& 0x3f).toInt64.toUInt64).toInt64
theorem w_iloadN (X : Stand p l e R s m args below meth c T locs cells slots) (hx : p.tables.exec = Jvm.exec) {k : Fin 4} {v : Int32} (hd : decode c.code pc = .ok (.iload_n k, 1)) (hp : pc + 1 = pc') (hl : Ls[k.val]? = some (.val (.int v)))
    (kk : Go p e below s cm sm Q T (mkF m pc' Ls (.int v :: St))) : Go p e below s cm sm Q T (mkF m pc Ls (St)) := by
  subst hp
  exact Go.st (fun t q => XS.iloadN (g := mkF m pc Ls (St)) X.here hx rfl hd hl q) kk
theorem w_iload (X : Stand p l e R s m args below meth c T locs cells slots) (hx : p.tables.exec = Jvm.exec) {k : Nat} {v : Int32} (hd : decode c.code pc = .ok (.iload k, 2)) (hp : pc + 2 = pc') (hl : Ls[k]? = some (.val (.int v)))
    (kk : Go p e below s cm sm Q T (mkF m pc' Ls (.int v :: St))) : Go p e below s cm sm Q T (mkF m pc Ls (St)) := by
  subst hp
  exact Go.st (fun t q => XS.iload (g := mkF m pc Ls (St)) X.here hx rfl hd hl q) kk
theorem w_istoreN (X : Stand p l e R s m args below meth c T locs cells slots) (hx : p.tables.exec = Jvm.exec) {k : Fin 4} {x : Int32} (hd : decode c.code pc = .ok (.istore_n k, 1)) (hp : pc + 1 = pc') (hl : storeLocals Ls k.val (.int x) = some Ls')
    (kk : Go p e below s cm sm Q T (mkF m pc' Ls' (St))) : Go p e below s cm sm Q T (mkF m pc Ls (.int x :: St)) := by
  subst hp
  exact Go.st (fun t q => XS.istoreN (g := mkF m pc Ls (.int x :: St)) X.here hx rfl hd rfl hl q) kk
theorem w_istore (X : Stand p l e R s m args below meth c T locs cells slots) (hx : p.tables.exec = Jvm.exec) {k : Nat} {x : Int32} (hd : decode c.code pc = .ok (.istore k, 2)) (hp : pc + 2 = pc') (hl : storeLocals Ls k (.int x) = some Ls')
    (kk : Go p e below s cm sm Q T (mkF m pc' Ls' (St))) : Go p e below s cm sm Q T (mkF m pc Ls (.int x :: St)) := by
  subst hp
  exact Go.st (fun t q => XS.istore (g := mkF m pc Ls (.int x :: St)) X.here hx rfl hd rfl hl q) kk
theorem w_lloadN (X : Stand p l e R s m args below meth c T locs cells slots) (hx : p.tables.exec = Jvm.exec) {k : Fin 4} {v : Int64} (hd : decode c.code pc = .ok (.lload_n k, 1)) (hp : pc + 1 = pc') (hl : Ls[k.val]? = some (.val (.long v)))
    (kk : Go p e below s cm sm Q T (mkF m pc' Ls (.long v :: St))) : Go p e below s cm sm Q T (mkF m pc Ls (St)) := by
  subst hp
  exact Go.st (fun t q => XS.lloadN (g := mkF m pc Ls (St)) X.here hx rfl hd hl q) kk
theorem w_lload (X : Stand p l e R s m args below meth c T locs cells slots) (hx : p.tables.exec = Jvm.exec) {k : Nat} {v : Int64} (hd : decode c.code pc = .ok (.lload k, 2)) (hp : pc + 2 = pc') (hl : Ls[k]? = some (.val (.long v)))
    (kk : Go p e below s cm sm Q T (mkF m pc' Ls (.long v :: St))) : Go p e below s cm sm Q T (mkF m pc Ls (St)) := by
  subst hp
  exact Go.st (fun t q => XS.lload (g := mkF m pc Ls (St)) X.here hx rfl hd hl q) kk
theorem w_lstoreN (X : Stand p l e R s m args below meth c T locs cells slots) (hx : p.tables.exec = Jvm.exec) {k : Fin 4} {x : Int64} (hd : decode c.code pc = .ok (.lstore_n k, 1)) (hp : pc + 1 = pc') (hl : storeLocals Ls k.val (.long x) = some Ls')
    (kk : Go p e below s cm sm Q T (mkF m pc' Ls' (St))) : Go p e below s cm sm Q T (mkF m pc Ls (.long x :: St)) := by
  subst hp
  exact Go.st (fun t q => XS.lstoreN (g := mkF m pc Ls (.long x :: St)) X.here hx rfl hd rfl hl q) kk
theorem w_lstore (X : Stand p l e R s m args below meth c T locs cells slots) (hx : p.tables.exec = Jvm.exec) {k : Nat} {x : Int64} (hd : decode c.code pc = .ok (.lstore k, 2)) (hp : pc + 2 = pc') (hl : storeLocals Ls k (.long x) = some Ls')
    (kk : Go p e below s cm sm Q T (mkF m pc' Ls' (St))) : Go p e below s cm sm Q T (mkF m pc Ls (.long x :: St)) := by
  subst hp
  exact Go.st (fun t q => XS.lstore (g := mkF m pc Ls (.long x :: St)) X.here hx rfl hd rfl hl q) kk
theorem w_aloadN (X : Stand p l e R s m args below meth c T locs cells slots) (hx : p.tables.exec = Jvm.exec) {k : Fin 4} {v : Value} (hd : decode c.code pc = .ok (.aload_n k, 1)) (hp : pc + 1 = pc') (hl : Ls[k.val]? = some (.val v)) (hv : v.isRef = true)
    (kk : Go p e below s cm sm Q T (mkF m pc' Ls (v :: St))) : Go p e below s cm sm Q T (mkF m pc Ls (St)) := by
  subst hp
  exact Go.st (fun t q => XS.aloadN (g := mkF m pc Ls (St)) X.here hx rfl hd hl hv q) kk
theorem w_aload (X : Stand p l e R s m args below meth c T locs cells slots) (hx : p.tables.exec = Jvm.exec) {k : Nat} {v : Value} (hd : decode c.code pc = .ok (.aload k, 2)) (hp : pc + 2 = pc') (hl : Ls[k]? = some (.val v)) (hv : v.isRef = true)
    (kk : Go p e below s cm sm Q T (mkF m pc' Ls (v :: St))) : Go p e below s cm sm Q T (mkF m pc Ls (St)) := by
  subst hp
  exact Go.st (fun t q => XS.aload (g := mkF m pc Ls (St)) X.here hx rfl hd hl hv q) kk
theorem w_astoreN (X : Stand p l e R s m args below meth c T locs cells slots) (hx : p.tables.exec = Jvm.exec) {k : Fin 4} {x : Value} (hd : decode c.code pc = .ok (.astore_n k, 1)) (hp : pc + 1 = pc') (hv : x.isRef = true) (hl : storeLocals Ls k.val x = some Ls')
    (kk : Go p e below s cm sm Q T (mkF m pc' Ls' (St))) : Go p e below s cm sm Q T (mkF m pc Ls (x :: St)) := by
  subst hp
  exact Go.st (fun t q => XS.astoreN (g := mkF m pc Ls (x :: St)) X.here hx rfl hd rfl hv hl q) kk
theorem w_astore (X : Stand p l e R s m args below meth c T locs cells slots) (hx : p.tables.exec = Jvm.exec) {k : Nat} {x : Value} (hd : decode c.code pc = .ok (.astore k, 2)) (hp : pc + 2 = pc') (hv : x.isRef = true) (hl : storeLocals Ls k x = some Ls')
    (kk : Go p e below s cm sm Q T (mkF m pc' Ls' (St))) : Go p e below s cm sm Q T (mkF m pc Ls (x :: St)) := by
  subst hp
  exact Go.st (fun t q => XS.astore (g := mkF m pc Ls (x :: St)) X.here hx rfl hd rfl hv hl q) kk
theorem w_iconst (X : Stand p l e R s m args below meth c T locs cells slots) (hx : p.tables.exec = Jvm.exec) {i : Int} {v : Int32} (hd : decode c.code pc = .ok (.iconst i, 1)) (hp : pc + 1 = pc') (hv : Int32.ofInt i = v)
    (kk : Go p e below s cm sm Q T (mkF m pc' Ls (.int v :: St))) : Go p e below s cm sm Q T (mkF m pc Ls St) := by
  subst hp hv
  exact Go.st (fun t q => XS.iconst (g := mkF m pc Ls St) X.here hx rfl hd q) kk
theorem w_bipush (X : Stand p l e R s m args below meth c T locs cells slots) (hx : p.tables.exec = Jvm.exec) {i : Int} {v : Int32} (hd : decode c.code pc = .ok (.bipush i, 2)) (hp : pc + 2 = pc') (hv : (Int8.ofInt i).toInt32 = v)
    (kk : Go p e below s cm sm Q T (mkF m pc' Ls (.int v :: St))) : Go p e below s cm sm Q T (mkF m pc Ls St) := by
  subst hp hv
  exact Go.st (fun t q => XS.bipush (g := mkF m pc Ls St) X.here hx rfl hd q) kk
theorem w_sipush (X : Stand p l e R s m args below meth c T locs cells slots) (hx : p.tables.exec = Jvm.exec) {i : Int} {v : Int32} (hd : decode c.code pc = .ok (.sipush i, 3)) (hp : pc + 3 = pc') (hv : (Int16.ofInt i).toInt32 = v)
    (kk : Go p e below s cm sm Q T (mkF m pc' Ls (.int v :: St))) : Go p e below s cm sm Q T (mkF m pc Ls St) := by
  subst hp hv
  exact Go.st (fun t q => XS.sipush (g := mkF m pc Ls St) X.here hx rfl hd q) kk
theorem w_lconst (X : Stand p l e R s m args below meth c T locs cells slots) (hx : p.tables.exec = Jvm.exec) {i : Fin 2} {v : Int64} (hd : decode c.code pc = .ok (.lconst i, 1)) (hp : pc + 1 = pc') (hv : Int64.ofNat i = v)
    (kk : Go p e below s cm sm Q T (mkF m pc' Ls (.long v :: St))) : Go p e below s cm sm Q T (mkF m pc Ls St) := by
  subst hp hv
  exact Go.st (fun t q => XS.lconst (g := mkF m pc Ls St) X.here hx rfl hd q) kk
theorem w_aconstNull (X : Stand p l e R s m args below meth c T locs cells slots) (hx : p.tables.exec = Jvm.exec)  (hd : decode c.code pc = .ok (.aconst_null, 1)) (hp : pc + 1 = pc')
    (kk : Go p e below s cm sm Q T (mkF m pc' Ls (.null :: St))) : Go p e below s cm sm Q T (mkF m pc Ls (St)) := by
  subst hp
  exact Go.st (fun t q => XS.aconstNull (g := mkF m pc Ls (St)) X.here hx rfl hd q) kk
theorem w_iadd (X : Stand p l e R s m args below meth c T locs cells slots) (hx : p.tables.exec = Jvm.exec) {x y : Int32} (hd : decode c.code pc = .ok (.iadd, 1)) (hp : pc + 1 = pc')
    (kk : Go p e below s cm sm Q T (mkF m pc' Ls (.int (x + y) :: St))) : Go p e below s cm sm Q T (mkF m pc Ls (.int y :: .int x :: St)) := by
  subst hp
  exact Go.st (fun t q => XS.iadd (g := mkF m pc Ls (.int y :: .int x :: St)) X.here hx rfl hd rfl q) kk
theorem w_ladd (X : Stand p l e R s m args below meth c T locs cells slots) (hx : p.tables.exec = Jvm.exec) {x y : Int64} (hd : decode c.code pc = .ok (.ladd, 1)) (hp : pc + 1 = pc')
    (kk : Go p e below s cm sm Q T (mkF m pc' Ls (.long (x + y) :: St))) : Go p e below s cm sm Q T (mkF m pc Ls (.long y :: .long x :: St)) := by
  subst hp
  exact Go.st (fun t q => XS.ladd (g := mkF m pc Ls (.long y :: .long x :: St)) X.here hx rfl hd rfl q) kk
theorem w_isub (X : Stand p l e R s m args below meth c T locs cells slots) (hx : p.tables.exec = Jvm.exec) {x y : Int32} (hd : decode c.code pc = .ok (.isub, 1)) (hp : pc + 1 = pc')
    (kk : Go p e below s cm sm Q T (mkF m pc' Ls (.int (x - y) :: St))) : Go p e below s cm sm Q T (mkF m pc Ls (.int y :: .int x :: St)) := by
  subst hp
  exact Go.st (fun t q => XS.isub (g := mkF m pc Ls (.int y :: .int x :: St)) X.here hx rfl hd rfl q) kk
theorem w_lsub (X : Stand p l e R s m args below meth c T locs cells slots) (hx : p.tables.exec = Jvm.exec) {x y : Int64} (hd : decode c.code pc = .ok (.lsub, 1)) (hp : pc + 1 = pc')
    (kk : Go p e below s cm sm Q T (mkF m pc' Ls (.long (x - y) :: St))) : Go p e below s cm sm Q T (mkF m pc Ls (.long y :: .long x :: St)) := by
  subst hp
  exact Go.st (fun t q => XS.lsub (g := mkF m pc Ls (.long y :: .long x :: St)) X.here hx rfl hd rfl q) kk
theorem w_imul (X : Stand p l e R s m args below meth c T locs cells slots) (hx : p.tables.exec = Jvm.exec) {x y : Int32} (hd : decode c.code pc = .ok (.imul, 1)) (hp : pc + 1 = pc')
    (kk : Go p e below s cm sm Q T (mkF m pc' Ls (.int (x * y) :: St))) : Go p e below s cm sm Q T (mkF m pc Ls (.int y :: .int x :: St)) := by
  subst hp
  exact Go.st (fun t q => XS.imul (g := mkF m pc Ls (.int y :: .int x :: St)) X.here hx rfl hd rfl q) kk
theorem w_lmul (X : Stand p l e R s m args below meth c T locs cells slots) (hx : p.tables.exec = Jvm.exec) {x y : Int64} (hd : decode c.code pc = .ok (.lmul, 1)) (hp : pc + 1 = pc')
    (kk : Go p e below s cm sm Q T (mkF m pc' Ls (.long (x * y) :: St))) : Go p e below s cm sm Q T (mkF m pc Ls (.long y :: .long x :: St)) := by
  subst hp
  exact Go.st (fun t q => XS.lmul (g := mkF m pc Ls (.long y :: .long x :: St)) X.here hx rfl hd rfl q) kk
theorem w_iand (X : Stand p l e R s m args below meth c T locs cells slots) (hx : p.tables.exec = Jvm.exec) {x y : Int32} (hd : decode c.code pc = .ok (.iand, 1)) (hp : pc + 1 = pc')
    (kk : Go p e below s cm sm Q T (mkF m pc' Ls (.int (x &&& y) :: St))) : Go p e below s cm sm Q T (mkF m pc Ls (.int y :: .int x :: St)) := by
  subst hp
  exact Go.st (fun t q => XS.iand (g := mkF m pc Ls (.int y :: .int x :: St)) X.here hx rfl hd rfl q) kk
theorem w_land (X : Stand p l e R s m args below meth c T locs cells slots) (hx : p.tables.exec = Jvm.exec) {x y : Int64} (hd : decode c.code pc = .ok (.land, 1)) (hp : pc + 1 = pc')
    (kk : Go p e below s cm sm Q T (mkF m pc' Ls (.long (x &&& y) :: St))) : Go p e below s cm sm Q T (mkF m pc Ls (.long y :: .long x :: St)) := by
  subst hp
  exact Go.st (fun t q => XS.land (g := mkF m pc Ls (.long y :: .long x :: St)) X.here hx rfl hd rfl q) kk
theorem w_ior (X : Stand p l e R s m args below meth c T locs cells slots) (hx : p.tables.exec = Jvm.exec) {x y : Int32} (hd : decode c.code pc = .ok (.ior, 1)) (hp : pc + 1 = pc')
    (kk : Go p e below s cm sm Q T (mkF m pc' Ls (.int (x ||| y) :: St))) : Go p e below s cm sm Q T (mkF m pc Ls (.int y :: .int x :: St)) := by
  subst hp
  exact Go.st (fun t q => XS.ior (g := mkF m pc Ls (.int y :: .int x :: St)) X.here hx rfl hd rfl q) kk
theorem w_lor (X : Stand p l e R s m args below meth c T locs cells slots) (hx : p.tables.exec = Jvm.exec) {x y : Int64} (hd : decode c.code pc = .ok (.lor, 1)) (hp : pc + 1 = pc')
    (kk : Go p e below s cm sm Q T (mkF m pc' Ls (.long (x ||| y) :: St))) : Go p e below s cm sm Q T (mkF m pc Ls (.long y :: .long x :: St)) := by
  subst hp
  exact Go.st (fun t q => XS.lor (g := mkF m pc Ls (.long y :: .long x :: St)) X.here hx rfl hd rfl q) kk
theorem w_ixor (X : Stand p l e R s m args below meth c T locs cells slots) (hx : p.tables.exec = Jvm.exec) {x y : Int32} (hd : decode c.code pc = .ok (.ixor, 1)) (hp : pc + 1 = pc')
    (kk : Go p e below s cm sm Q T (mkF m pc' Ls (.int (x ^^^ y) :: St))) : Go p e below s cm sm Q T (mkF m pc Ls (.int y :: .int x :: St)) := by
  subst hp
  exact Go.st (fun t q => XS.ixor (g := mkF m pc Ls (.int y :: .int x :: St)) X.here hx rfl hd rfl q) kk
theorem w_lxor (X : Stand p l e R s m args below meth c T locs cells slots) (hx : p.tables.exec = Jvm.exec) {x y : Int64} (hd : decode c.code pc = .ok (.lxor, 1)) (hp : pc + 1 = pc')
    (kk : Go p e below s cm sm Q T (mkF m pc' Ls (.long (x ^^^ y) :: St))) : Go p e below s cm sm Q T (mkF m pc Ls (.long y :: .long x :: St)) := by
  subst hp
  exact Go.st (fun t q => XS.lxor (g := mkF m pc Ls (.long y :: .long x :: St)) X.here hx rfl hd rfl q) kk
theorem w_idiv (X : Stand p l e R s m args below meth c T locs cells slots) (hx : p.tables.exec = Jvm.exec) {x y : Int32} (hd : decode c.code pc = .ok (.idiv, 1)) (hp : pc + 1 = pc') (hy : y ≠ 0)
    (kk : Go p e below s cm sm Q T (mkF m pc' Ls (.int (x / y) :: St))) : Go p e below s cm sm Q T (mkF m pc Ls (.int y :: .int x :: St)) := by
  subst hp
  exact Go.st (fun t q => XS.idiv (g := mkF m pc Ls (.int y :: .int x :: St)) X.here hx rfl hd rfl hy q) kk
theorem own_irem (x y : Int32) : x - x / y * y = x % y := by
  apply Int32.toInt_inj.mp
  have h : x.toInt - x.toInt.tdiv y.toInt * y.toInt = x.toInt.tmod y.toInt := by
    have := Int.mul_tdiv_add_tmod x.toInt y.toInt
    rw [Int.mul_comm]; omega
  have hr := (x % y).toInt_lt
  have hl := (x % y).le_toInt
  rw [Int32.toInt_mod] at hr hl
  rw [Int32.toInt_sub, Int32.toInt_mul, Int32.toInt_div, Int32.toInt_mod, Int.bmod_mul_bmod, Int.sub_bmod_bmod, h, Jvm.Kit.bmod32 (by omega) (by omega)]
theorem w_irem (X : Stand p l e R s m args below meth c T locs cells slots) (hx : p.tables.exec = Jvm.exec) {x y : Int32} (hd : decode c.code pc = .ok (.irem, 1)) (hp : pc + 1 = pc') (hy : y ≠ 0)
    (kk : Go p e below s cm sm Q T (mkF m pc' Ls (.int (x % y) :: St))) : Go p e below s cm sm Q T (mkF m pc Ls (.int y :: .int x :: St)) := by
  subst hp
  rw [← own_irem] at kk
  exact Go.st (fun t q => XS.irem (g := mkF m pc Ls (.int y :: .int x :: St)) X.here hx rfl hd rfl hy q) kk
theorem w_ldiv (X : Stand p l e R s m args below meth c T locs cells slots) (hx : p.tables.exec = Jvm.exec) {x y : Int64} (hd : decode c.code pc = .ok (.ldiv, 1)) (hp : pc + 1 = pc') (hy : y ≠ 0)
    (kk : Go p e below s cm sm Q T (mkF m pc' Ls (.long (x / y) :: St))) : Go p e below s cm sm Q T (mkF m pc Ls (.long y :: .long x :: St)) := by
  subst hp
  exact Go.st (fun t q => XS.ldiv (g := mkF m pc Ls (.long y :: .long x :: St)) X.here hx rfl hd rfl hy q) kk
theorem own_lrem (x y : Int64) : x - x / y * y = x % y := by
  apply Int64.toInt_inj.mp
  have h : x.toInt - x.toInt.tdiv y.toInt * y.toInt = x.toInt.tmod y.toInt := by
    have := Int.mul_tdiv_add_tmod x.toInt y.toInt
    rw [Int.mul_comm]; omega
  have hr := (x % y).toInt_lt
  have hl := (x % y).le_toInt
  rw [Int64.toInt_mod] at hr hl
  rw [Int64.toInt_sub, Int64.toInt_mul, Int64.toInt_div, Int64.toInt_mod, Int.bmod_mul_bmod, Int.sub_bmod_bmod, h, Jvm.Kit.bmod64 (by omega) (by omega)]
theorem w_lrem (X : Stand p l e R s m args below meth c T locs cells slots) (hx : p.tables.exec = Jvm.exec) {x y : Int64} (hd : decode c.code pc = .ok (.lrem, 1)) (hp : pc + 1 = pc') (hy : y ≠ 0)
    (kk : Go p e below s cm sm Q T (mkF m pc' Ls (.long (x % y) :: St))) : Go p e below s cm sm Q T (mkF m pc Ls (.long y :: .long x :: St)) := by
  subst hp
  rw [← own_lrem] at kk
  exact Go.st (fun t q => XS.lrem (g := mkF m pc Ls (.long y :: .long x :: St)) X.here hx rfl hd rfl hy q) kk
theorem w_ineg (X : Stand p l e R s m args below meth c T locs cells slots) (hx : p.tables.exec = Jvm.exec) {x : Int32} (hd : decode c.code pc = .ok (.ineg, 1)) (hp : pc + 1 = pc')
    (kk : Go p e below s cm sm Q T (mkF m pc' Ls (.int (-x) :: St))) : Go p e below s cm sm Q T (mkF m pc Ls (.int x :: St)) := by
  subst hp
  exact Go.st (fun t q => XS.ineg (g := mkF m pc Ls (.int x :: St)) X.here hx rfl hd rfl q) kk
theorem w_lneg (X : Stand p l e R s m args below meth c T locs cells slots) (hx : p.tables.exec = Jvm.exec) {x : Int64} (hd : decode c.code pc = .ok (.lneg, 1)) (hp : pc + 1 = pc')
    (kk : Go p e below s cm sm Q T (mkF m pc' Ls (.long (-x) :: St))) : Go p e below s cm sm Q T (mkF m pc Ls (.long x :: St)) := by
  subst hp
  exact Go.st (fun t q => XS.lneg (g := mkF m pc Ls (.long x :: St)) X.here hx rfl hd rfl q) kk
theorem w_i2l (X : Stand p l e R s m args below meth c T locs cells slots) (hx : p.tables.exec = Jvm.exec) {x : Int32} (hd : decode c.code pc = .ok (.i2l, 1)) (hp : pc + 1 = pc')
    (kk : Go p e below s cm sm Q T (mkF m pc' Ls (.long x.toInt64 :: St))) : Go p e below s cm sm Q T (mkF m pc Ls (.int x :: St)) := by
  subst hp
  exact Go.st (fun t q => XS.i2l (g := mkF m pc Ls (.int x :: St)) X.here hx rfl hd rfl q) kk
theorem w_l2i (X : Stand p l e R s m args below meth c T locs cells slots) (hx : p.tables.exec = Jvm.exec) {x : Int64} (hd : decode c.code pc = .ok (.l2i, 1)) (hp : pc + 1 = pc')
    (kk : Go p e below s cm sm Q T (mkF m pc' Ls (.int x.toInt32 :: St))) : Go p e below s cm sm Q T (mkF m pc Ls (.long x :: St)) := by
  subst hp
  exact Go.st (fun t q => XS.l2i (g := mkF m pc Ls (.long x :: St)) X.here hx rfl hd rfl q) kk
theorem w_i2b (X : Stand p l e R s m args below meth c T locs cells slots) (hx : p.tables.exec = Jvm.exec) {x : Int32} (hd : decode c.code pc = .ok (.i2b, 1)) (hp : pc + 1 = pc')
    (kk : Go p e below s cm sm Q T (mkF m pc' Ls (.int x.toInt8.toInt32 :: St))) : Go p e below s cm sm Q T (mkF m pc Ls (.int x :: St)) := by
  subst hp
  exact Go.st (fun t q => XS.i2b (g := mkF m pc Ls (.int x :: St)) X.here hx rfl hd rfl q) kk
theorem w_i2c (X : Stand p l e R s m args below meth c T locs cells slots) (hx : p.tables.exec = Jvm.exec) {x : Int32} (hd : decode c.code pc = .ok (.i2c, 1)) (hp : pc + 1 = pc')
    (kk : Go p e below s cm sm Q T (mkF m pc' Ls (.int x.toUInt32.toUInt16.toUInt32.toInt32 :: St))) : Go p e below s cm sm Q T (mkF m pc Ls (.int x :: St)) := by
  subst hp
  exact Go.st (fun t q => XS.i2c (g := mkF m pc Ls (.int x :: St)) X.here hx rfl hd rfl q) kk
theorem w_ishl (X : Stand p l e R s m args below meth c T locs cells slots) (hx : p.tables.exec = Jvm.exec) {x y : Int32} (hd : decode c.code pc = .ok (.ishl, 1)) (hp : pc + 1 = pc')
    (kk : Go p e below s cm sm Q T (mkF m pc' Ls (.int (x <<< (y &&& 31)) :: St))) : Go p e below s cm sm Q T (mkF m pc Ls (.int y :: .int x :: St)) := by
  subst hp
  exact Go.st (fun t q => XS.ishl (g := mkF m pc Ls (.int y :: .int x :: St)) X.here hx rfl hd rfl q) kk
theorem w_ishr (X : Stand p l e R s m args below meth c T locs cells slots) (hx : p.tables.exec = Jvm.exec) {x y : Int32} (hd : decode c.code pc = .ok (.ishr, 1)) (hp : pc + 1 = pc')
    (kk : Go p e below s cm sm Q T (mkF m pc' Ls (.int (x >>> (y &&& 31)) :: St))) : Go p e below s cm sm Q T (mkF m pc Ls (.int y :: .int x :: St)) := by
  subst hp
  exact Go.st (fun t q => XS.ishr (g := mkF m pc Ls (.int y :: .int x :: St)) X.here hx rfl hd rfl q) kk
theorem w_iushr (X : Stand p l e R s m args below meth c T locs cells slots) (hx : p.tables.exec = Jvm.exec) {x y : Int32} (hd : decode c.code pc = .ok (.iushr, 1)) (hp : pc + 1 = pc')
    (kk : Go p e below s cm sm Q T (mkF m pc' Ls (.int (jushr x y) :: St))) : Go p e below s cm sm Q T (mkF m pc Ls (.int y :: .int x :: St)) := by
  subst hp
  exact Go.st (fun t q => XS.iushr (g := mkF m pc Ls (.int y :: .int x :: St)) X.here hx rfl hd rfl q) kk
theorem w_lshl (X : Stand p l e R s m args below meth c T locs cells slots) (hx : p.tables.exec = Jvm.exec) {x : Int64} {y : Int32} (hd : decode c.code pc = .ok (.lshl, 1)) (hp : pc + 1 = pc')
    (kk : Go p e below s cm sm Q T (mkF m pc' Ls (.long (x <<< (y &&& 0x3f).toInt64) :: St))) : Go p e below s cm sm Q T (mkF m pc Ls (.int y :: .long x :: St)) := by
  subst hp
  exact Go.st (fun t q => XS.lshl (g := mkF m pc Ls (.int y :: .long x :: St)) X.here hx rfl hd rfl q) kk
theorem w_lshr (X : Stand p l e R s m args below meth c T locs cells slots) (hx : p.tables.exec = Jvm.exec) {x : Int64} {y : Int32} (hd : decode c.code pc = .ok (.lshr, 1)) (hp : pc + 1 = pc')
    (kk : Go p e below s cm sm Q T (mkF m pc' Ls (.long (x >>> (y &&& 0x3f).toInt64) :: St))) : Go p e below s cm sm Q T (mkF m pc Ls (.int y :: .long x :: St)) := by
  subst hp
  exact Go.st (fun t q => XS.lshr (g := mkF m pc Ls (.int y :: .long x :: St)) X.here hx rfl hd rfl q) kk
theorem w_lushr (X : Stand p l e R s m args below meth c T locs cells slots) (hx : p.tables.exec = Jvm.exec) {x : Int64} {y : Int32} (hd : decode c.code pc = .ok (.lushr, 1)) (hp : pc + 1 = pc')
    (kk : Go p e below s cm sm Q T (mkF m pc' Ls (.long (jlushr x y) :: St))) : Go p e below s cm sm Q T (mkF m pc Ls (.int y :: .long x :: St)) := by
  subst hp
  exact Go.st (fun t q => XS.lushr (g := mkF m pc Ls (.int y :: .long x :: St)) X.here hx rfl hd rfl q) kk
theorem w_lcmp (X : Stand p l e R s m args below meth c T locs cells slots) (hx : p.tables.exec = Jvm.exec) {x y : Int64} (hd : decode c.code pc = .ok (.lcmp, 1)) (hp : pc + 1 = pc')
    (kk : Go p e below s cm sm Q T (mkF m pc' Ls (.int (lcmpW x y) :: St))) : Go p e below s cm sm Q T (mkF m pc Ls (.long y :: .long x :: St)) := by
  subst hp
  exact Go.st (fun t q => XS.lcmp (g := mkF m pc Ls (.long y :: .long x :: St)) X.here hx rfl hd rfl q) kk
theorem w_dup (X : Stand p l e R s m args below meth c T locs cells slots) (hx : p.tables.exec = Jvm.exec) {x : Value} (hd : decode c.code pc = .ok (.dup, 1)) (hp : pc + 1 = pc') (hv : x.category = 1)
    (kk : Go p e below s cm sm Q T (mkF m pc' Ls (x :: x :: St))) : Go p e below s cm sm Q T (mkF m pc Ls (x :: St)) := by
  subst hp
  exact Go.st (fun t q => XS.dup (g := mkF m pc Ls (x :: St)) X.here hx rfl hd rfl hv q) kk
theorem w_pop (X : Stand p l e R s m args below meth c T locs cells slots) (hx : p.tables.exec = Jvm.exec) {x : Value} (hd : decode c.code pc = .ok (.pop, 1)) (hp : pc + 1 = pc') (hv : x.category = 1)
    (kk : Go p e below s cm sm Q T (mkF m pc' Ls (St))) : Go p e below s cm sm Q T (mkF m pc Ls (x :: St)) := by
  subst hp
  exact Go.st (fun t q => XS.pop (g := mkF m pc Ls (x :: St)) X.here hx rfl hd rfl hv q) kk
theorem w_dupX1 (X : Stand p l e R s m args below meth c T locs cells slots) (hx : p.tables.exec = Jvm.exec) {x y : Value} (hd : decode c.code pc = .ok (.dup_x1, 1)) (hp : pc + 1 = pc') (hv : x.category = 1) (hv' : y.category = 1)
    (kk : Go p e below s cm sm Q T (mkF m pc' Ls (x :: y :: x :: St))) : Go p e below s cm sm Q T (mkF m pc Ls (x :: y :: St)) := by
  subst hp
  exact Go.st (fun t q => XS.dupX1 (g := mkF m pc Ls (x :: y :: St)) X.here hx rfl hd rfl hv hv' q) kk
theorem w_iinc (X : Stand p l e R s m args below meth c T locs cells slots) (hx : p.tables.exec = Jvm.exec) {k : Nat} {cst : Int} {x w : Int32} (hd : decode c.code pc = .ok (.iinc k cst, 3)) (hp : pc + 3 = pc') (hl : Ls[k]? = some (.val (.int x))) (hv : Int32.ofInt cst = w) (hl' : storeLocals Ls k (.int (x + w)) = some Ls')
    (kk : Go p e below s cm sm Q T (mkF m pc' Ls' St)) : Go p e below s cm sm Q T (mkF m pc Ls St) := by
  subst hp hv
  exact Go.st (fun t q => XS.iinc (g := mkF m pc Ls St) X.here hx rfl hd hl hl' q) kk
theorem w_goto (X : Stand p l e R s m args below meth c T locs cells slots) (hx : p.tables.exec = Jvm.exec) {o : Int} (hd : decode c.code pc = .ok (.goto o, 3)) (ho : 0 ≤ (pc : Int) + o) (hp : ((pc : Int) + o).toNat = pc')
    (kk : Go p e below s cm sm Q T (mkF m pc' Ls St)) : Go p e below s cm sm Q T (mkF m pc Ls St) :=
  Go.st (fun t q => XS.goto (g := mkF m pc Ls St) X.here hx rfl (pc0 := pc) (pc' := pc') rfl hd ho hp q) kk
theorem w_icmp0 (X : Stand p l e R s m args below meth c T locs cells slots) (hx : p.tables.exec = Jvm.exec) {cd : ClassFile.Cond} {x y : Int32} {o : Int} {pt pf : Nat} (hd : decode c.code pc = .ok (.if_icmp cd o, 3)) (hf : pc + 3 = pf) (ho : 0 ≤ (pc : Int) + o) (hp : ((pc : Int) + o).toNat = pt)
    (kT : if_icmp.holds cd x y = true → Go p e below s cm sm Q T (mkF m pt Ls St)) (kF : if_icmp.holds cd x y = false → Go p e below s cm sm Q T (mkF m pf Ls St)) : Go p e below s cm sm Q T (mkF m pc Ls (.int y :: .int x :: St)) := by
  subst hf
  cases hc : if_icmp.holds cd x y with
  | true => exact Go.st (fun t q => XS.icmpYes (g := mkF m pc Ls (.int y :: .int x :: St)) X.here hx rfl (pc0 := pc) (pc' := pt) rfl hd rfl hc ho hp q) (kT hc)
  | false => exact Go.st (fun t q => XS.icmpNo (g := mkF m pc Ls (.int y :: .int x :: St)) X.here hx rfl hd rfl hc q) (kF hc)
theorem w_if0 (X : Stand p l e R s m args below meth c T locs cells slots) (hx : p.tables.exec = Jvm.exec) {cd : ClassFile.Cond} {x : Int32} {o : Int} {pt pf : Nat} (hd : decode c.code pc = .ok (.ifCond cd o, 3)) (hf : pc + 3 = pf) (ho : 0 ≤ (pc : Int) + o) (hp : ((pc : Int) + o).toNat = pt)
    (kT : if_icmp.holds cd x 0 = true → Go p e below s cm sm Q T (mkF m pt Ls St)) (kF : if_icmp.holds cd x 0 = false → Go p e below s cm sm Q T (mkF m pf Ls St)) : Go p e below s cm sm Q T (mkF m pc Ls (.int x :: St)) := by
  subst hf
  cases hc : if_icmp.holds cd x 0 with
  | true => exact Go.st (fun t q => XS.ifYes (g := mkF m pc Ls (.int x :: St)) X.here hx rfl (pc0 := pc) (pc' := pt) rfl hd rfl ((if0 _ _).trans hc) ho hp q) (kT hc)
  | false => exact Go.st (fun t q => XS.ifNo (g := mkF m pc Ls (.int x :: St)) X.here hx rfl hd rfl ((if0 _ _).trans hc) q) (kF hc)
theorem h_lt {x y : Int32} : (if_icmp.holds .lt x y = true → x < y) ∧ (if_icmp.holds .lt x y = false → ¬ x < y) := ⟨fun h => Decidable.byContradiction fun q => by simp [(flt q).1] at h, fun h q => by simp [(tlt q).1] at h⟩
theorem h_ge {x y : Int32} : (if_icmp.holds .ge x y = true → ¬ x < y) ∧ (if_icmp.holds .ge x y = false → x < y) := ⟨fun h q => by simp [(tlt q).2.1] at h, fun h => Decidable.byContradiction fun q => by simp [(flt q).2.1] at h⟩
theorem h_gt {x y : Int32} : (if_icmp.holds .gt x y = true → y < x) ∧ (if_icmp.holds .gt x y = false → ¬ y < x) := ⟨fun h => Decidable.byContradiction fun q => by simp [(flt q).2.2.1] at h, fun h q => by simp [(tlt q).2.2.1] at h⟩
theorem h_le {x y : Int32} : (if_icmp.holds .le x y = true → ¬ y < x) ∧ (if_icmp.holds .le x y = false → y < x) := ⟨fun h q => by simp [(tlt q).2.2.2] at h, fun h => Decidable.byContradiction fun q => by simp [(flt q).2.2.2] at h⟩
theorem h_eq {x y : Int32} : (if_icmp.holds .eq x y = true → x = y) ∧ (if_icmp.holds .eq x y = false → ¬ x = y) := ⟨fun h => Decidable.byContradiction fun q => by simp [(feq q).1] at h, fun h q => by simp [(teq q).1] at h⟩
theorem h_ne {x y : Int32} : (if_icmp.holds .ne x y = true → ¬ x = y) ∧ (if_icmp.holds .ne x y = false → x = y) := ⟨fun h q => by simp [(teq q).2] at h, fun h => Decidable.byContradiction fun q => by simp [(feq q).2] at h⟩
theorem w_icmp_lt (X : Stand p l e R s m args below meth c T locs cells slots) (hx : p.tables.exec = Jvm.exec) {x y : Int32} {o : Int} {pt pf : Nat} (hd : decode c.code pc = .ok (.if_icmp .lt o, 3)) (hf : pc + 3 = pf) (ho : 0 ≤ (pc : Int) + o) (hp : ((pc : Int) + o).toNat = pt)
    (kT : x < y → Go p e below s cm sm Q T (mkF m pt Ls St)) (kF : ¬ (x < y) → Go p e below s cm sm Q T (mkF m pf Ls St)) : Go p e below s cm sm Q T (mkF m pc Ls (.int y :: .int x :: St)) :=
  w_icmp0 X hx hd hf ho hp (fun h => kT (h_lt.1 h)) (fun h => kF (h_lt.2 h))
theorem w_if_lt (X : Stand p l e R s m args below meth c T locs cells slots) (hx : p.tables.exec = Jvm.exec) {x : Int32} {o : Int} {pt pf : Nat} (hd : decode c.code pc = .ok (.ifCond .lt o, 3)) (hf : pc + 3 = pf) (ho : 0 ≤ (pc : Int) + o) (hp : ((pc : Int) + o).toNat = pt)
    (kT : x < 0 → Go p e below s cm sm Q T (mkF m pt Ls St)) (kF : ¬ (x < 0) → Go p e below s cm sm Q T (mkF m pf Ls St)) : Go p e below s cm sm Q T (mkF m pc Ls (.int x :: St)) :=
  w_if0 X hx hd hf ho hp (fun h => kT (h_lt.1 h)) (fun h => kF (h_lt.2 h))
theorem w_ifL_lt (X : Stand p l e R s m args below meth c T locs cells slots) (hx : p.tables.exec = Jvm.exec) {x y : Int64} {o : Int} {pt pf : Nat} (hd : decode c.code pc = .ok (.ifCond .lt o, 3)) (hf : pc + 3 = pf) (ho : 0 ≤ (pc : Int) + o) (hp : ((pc : Int) + o).toNat = pt)
    (kT : x < y → Go p e below s cm sm Q T (mkF m pt Ls St)) (kF : ¬ (x < y) → Go p e below s cm sm Q T (mkF m pf Ls St)) : Go p e below s cm sm Q T (mkF m pc Ls (.int (lcmpW x y) :: St)) :=
  w_if_lt X hx hd hf ho hp (fun q => kT ((lw_lt x y).1 q)) (fun q => kF (fun r => q ((lw_lt x y).2 r)))
theorem w_icmp_ge (X : Stand p l e R s m args below meth c T locs cells slots) (hx : p.tables.exec = Jvm.exec) {x y : Int32} {o : Int} {pt pf : Nat} (hd : decode c.code pc = .ok (.if_icmp .ge o, 3)) (hf : pc + 3 = pf) (ho : 0 ≤ (pc : Int) + o) (hp : ((pc : Int) + o).toNat = pt)
    (kT : ¬ (x < y) → Go p e below s cm sm Q T (mkF m pt Ls St)) (kF : x < y → Go p e below s cm sm Q T (mkF m pf Ls St)) : Go p e below s cm sm Q T (mkF m pc Ls (.int y :: .int x :: St)) :=
  w_icmp0 X hx hd hf ho hp (fun h => kT (h_ge.1 h)) (fun h => kF (h_ge.2 h))
theorem w_if_ge (X : Stand p l e R s m args below meth c T locs cells slots) (hx : p.tables.exec = Jvm.exec) {x : Int32} {o : Int} {pt pf : Nat} (hd : decode c.code pc = .ok (.ifCond .ge o, 3)) (hf : pc + 3 = pf) (ho : 0 ≤ (pc : Int) + o) (hp : ((pc : Int) + o).toNat = pt)
    (kT : ¬ (x < 0) → Go p e below s cm sm Q T (mkF m pt Ls St)) (kF : x < 0 → Go p e below s cm sm Q T (mkF m pf Ls St)) : Go p e below s cm sm Q T (mkF m pc Ls (.int x :: St)) :=
  w_if0 X hx hd hf ho hp (fun h => kT (h_ge.1 h)) (fun h => kF (h_ge.2 h))
theorem w_ifL_ge (X : Stand p l e R s m args below meth c T locs cells slots) (hx : p.tables.exec = Jvm.exec) {x y : Int64} {o : Int} {pt pf : Nat} (hd : decode c.code pc = .ok (.ifCond .ge o, 3)) (hf : pc + 3 = pf) (ho : 0 ≤ (pc : Int) + o) (hp : ((pc : Int) + o).toNat = pt)
    (kT : ¬ (x < y) → Go p e below s cm sm Q T (mkF m pt Ls St)) (kF : x < y → Go p e below s cm sm Q T (mkF m pf Ls St)) : Go p e below s cm sm Q T (mkF m pc Ls (.int (lcmpW x y) :: St)) :=
  w_if_ge X hx hd hf ho hp (fun q => kT (fun r => q ((lw_lt x y).2 r))) (fun q => kF ((lw_lt x y).1 q))
theorem w_icmp_gt (X : Stand p l e R s m args below meth c T locs cells slots) (hx : p.tables.exec = Jvm.exec) {x y : Int32} {o : Int} {pt pf : Nat} (hd : decode c.code pc = .ok (.if_icmp .gt o, 3)) (hf : pc + 3 = pf) (ho : 0 ≤ (pc : Int) + o) (hp : ((pc : Int) + o).toNat = pt)
    (kT : y < x → Go p e below s cm sm Q T (mkF m pt Ls St)) (kF : ¬ (y < x) → Go p e below s cm sm Q T (mkF m pf Ls St)) : Go p e below s cm sm Q T (mkF m pc Ls (.int y :: .int x :: St)) :=
  w_icmp0 X hx hd hf ho hp (fun h => kT (h_gt.1 h)) (fun h => kF (h_gt.2 h))
theorem w_if_gt (X : Stand p l e R s m args below meth c T locs cells slots) (hx : p.tables.exec = Jvm.exec) {x : Int32} {o : Int} {pt pf : Nat} (hd : decode c.code pc = .ok (.ifCond .gt o, 3)) (hf : pc + 3 = pf) (ho : 0 ≤ (pc : Int) + o) (hp : ((pc : Int) + o).toNat = pt)
    (kT : 0 < x → Go p e below s cm sm Q T (mkF m pt Ls St)) (kF : ¬ (0 < x) → Go p e below s cm sm Q T (mkF m pf Ls St)) : Go p e below s cm sm Q T (mkF m pc Ls (.int x :: St)) :=
  w_if0 X hx hd hf ho hp (fun h => kT (h_gt.1 h)) (fun h => kF (h_gt.2 h))
theorem w_ifL_gt (X : Stand p l e R s m args below meth c T locs cells slots) (hx : p.tables.exec = Jvm.exec) {x y : Int64} {o : Int} {pt pf : Nat} (hd : decode c.code pc = .ok (.ifCond .gt o, 3)) (hf : pc + 3 = pf) (ho : 0 ≤ (pc : Int) + o) (hp : ((pc : Int) + o).toNat = pt)
    (kT : y < x → Go p e below s cm sm Q T (mkF m pt Ls St)) (kF : ¬ (y < x) → Go p e below s cm sm Q T (mkF m pf Ls St)) : Go p e below s cm sm Q T (mkF m pc Ls (.int (lcmpW x y) :: St)) :=
  w_if_gt X hx hd hf ho hp (fun q => kT ((lw_gt x y).1 q)) (fun q => kF (fun r => q ((lw_gt x y).2 r)))
theorem w_icmp_le (X : Stand p l e R s m args below meth c T locs cells slots) (hx : p.tables.exec = Jvm.exec) {x y : Int32} {o : Int} {pt pf : Nat} (hd : decode c.code pc = .ok (.if_icmp .le o, 3)) (hf : pc + 3 = pf) (ho : 0 ≤ (pc : Int) + o) (hp : ((pc : Int) + o).toNat = pt)
    (kT : ¬ (y < x) → Go p e below s cm sm Q T (mkF m pt Ls St)) (kF : y < x → Go p e below s cm sm Q T (mkF m pf Ls St)) : Go p e below s cm sm Q T (mkF m pc Ls (.int y :: .int x :: St)) :=
  w_icmp0 X hx hd hf ho hp (fun h => kT (h_le.1 h)) (fun h => kF (h_le.2 h))
theorem w_if_le (X : Stand p l e R s m args below meth c T locs cells slots) (hx : p.tables.exec = Jvm.exec) {x : Int32} {o : Int} {pt pf : Nat} (hd : decode c.code pc = .ok (.ifCond .le o, 3)) (hf : pc + 3 = pf) (ho : 0 ≤ (pc : Int) + o) (hp : ((pc : Int) + o).toNat = pt)
    (kT : ¬ (0 < x) → Go p e below s cm sm Q T (mkF m pt Ls St)) (kF : 0 < x → Go p e below s cm sm Q T (mkF m pf Ls St)) : Go p e below s cm sm Q T (mkF m pc Ls (.int x :: St)) :=
  w_if0 X hx hd hf ho hp (fun h => kT (h_le.1 h)) (fun h => kF (h_le.2 h))
theorem w_ifL_le (X : Stand p l e R s m args below meth c T locs cells slots) (hx : p.tables.exec = Jvm.exec) {x y : Int64} {o : Int} {pt pf : Nat} (hd : decode c.code pc = .ok (.ifCond .le o, 3)) (hf : pc + 3 = pf) (ho : 0 ≤ (pc : Int) + o) (hp : ((pc : Int) + o).toNat = pt)
    (kT : ¬ (y < x) → Go p e below s cm sm Q T (mkF m pt Ls St)) (kF : y < x → Go p e below s cm sm Q T (mkF m pf Ls St)) : Go p e below s cm sm Q T (mkF m pc Ls (.int (lcmpW x y) :: St)) :=
  w_if_le X hx hd hf ho hp (fun q => kT (fun r => q ((lw_gt x y).2 r))) (fun q => kF ((lw_gt x y).1 q))
theorem w_icmp_eq (X : Stand p l e R s m args below meth c T locs cells slots) (hx : p.tables.exec = Jvm.exec) {x y : Int32} {o : Int} {pt pf : Nat} (hd : decode c.code pc = .ok (.if_icmp .eq o, 3)) (hf : pc + 3 = pf) (ho : 0 ≤ (pc : Int) + o) (hp : ((pc : Int) + o).toNat = pt)
    (kT : x = y → Go p e below s cm sm Q T (mkF m pt Ls St)) (kF : ¬ (x = y) → Go p e below s cm sm Q T (mkF m pf Ls St)) : Go p e below s cm sm Q T (mkF m pc Ls (.int y :: .int x :: St)) :=
  w_icmp0 X hx hd hf ho hp (fun h => kT (h_eq.1 h)) (fun h => kF (h_eq.2 h))
theorem w_if_eq (X : Stand p l e R s m args below meth c T locs cells slots) (hx : p.tables.exec = Jvm.exec) {x : Int32} {o : Int} {pt pf : Nat} (hd : decode c.code pc = .ok (.ifCond .eq o, 3)) (hf : pc + 3 = pf) (ho : 0 ≤ (pc : Int) + o) (hp : ((pc : Int) + o).toNat = pt)
    (kT : x = 0 → Go p e below s cm sm Q T (mkF m pt Ls St)) (kF : ¬ (x = 0) → Go p e below s cm sm Q T (mkF m pf Ls St)) : Go p e below s cm sm Q T (mkF m pc Ls (.int x :: St)) :=
  w_if0 X hx hd hf ho hp (fun h => kT (h_eq.1 h)) (fun h => kF (h_eq.2 h))
theorem w_ifL_eq (X : Stand p l e R s m args below meth c T locs cells slots) (hx : p.tables.exec = Jvm.exec) {x y : Int64} {o : Int} {pt pf : Nat} (hd : decode c.code pc = .ok (.ifCond .eq o, 3)) (hf : pc + 3 = pf) (ho : 0 ≤ (pc : Int) + o) (hp : ((pc : Int) + o).toNat = pt)
    (kT : x = y → Go p e below s cm sm Q T (mkF m pt Ls St)) (kF : ¬ (x = y) → Go p e below s cm sm Q T (mkF m pf Ls St)) : Go p e below s cm sm Q T (mkF m pc Ls (.int (lcmpW x y) :: St)) :=
  w_if_eq X hx hd hf ho hp (fun q => kT ((lw_eq x y).1 q)) (fun q => kF (fun r => q ((lw_eq x y).2 r)))
theorem w_icmp_ne (X : Stand p l e R s m args below meth c T locs cells slots) (hx : p.tables.exec = Jvm.exec) {x y : Int32} {o : Int} {pt pf : Nat} (hd : decode c.code pc = .ok (.if_icmp .ne o, 3)) (hf : pc + 3 = pf) (ho : 0 ≤ (pc : Int) + o) (hp : ((pc : Int) + o).toNat = pt)
    (kT : ¬ (x = y) → Go p e below s cm sm Q T (mkF m pt Ls St)) (kF : x = y → Go p e below s cm sm Q T (mkF m pf Ls St)) : Go p e below s cm sm Q T (mkF m pc Ls (.int y :: .int x :: St)) :=
  w_icmp0 X hx hd hf ho hp (fun h => kT (h_ne.1 h)) (fun h => kF (h_ne.2 h))
theorem w_if_ne (X : Stand p l e R s m args below meth c T locs cells slots) (hx : p.tables.exec = Jvm.exec) {x : Int32} {o : Int} {pt pf : Nat} (hd : decode c.code pc = .ok (.ifCond .ne o, 3)) (hf : pc + 3 = pf) (ho : 0 ≤ (pc : Int) + o) (hp : ((pc : Int) + o).toNat = pt)
    (kT : ¬ (x = 0) → Go p e below s cm sm Q T (mkF m pt Ls St)) (kF : x = 0 → Go p e below s cm sm Q T (mkF m pf Ls St)) : Go p e below s cm sm Q T (mkF m pc Ls (.int x :: St)) :=
  w_if0 X hx hd hf ho hp (fun h => kT (h_ne.1 h)) (fun h => kF (h_ne.2 h))
theorem w_ifL_ne (X : Stand p l e R s m args below meth c T locs cells slots) (hx : p.tables.exec = Jvm.exec) {x y : Int64} {o : Int} {pt pf : Nat} (hd : decode c.code pc = .ok (.ifCond .ne o, 3)) (hf : pc + 3 = pf) (ho : 0 ≤ (pc : Int) + o) (hp : ((pc : Int) + o).toNat = pt)
    (kT : ¬ (x = y) → Go p e below s cm sm Q T (mkF m pt Ls St)) (kF : x = y → Go p e below s cm sm Q T (mkF m pf Ls St)) : Go p e below s cm sm Q T (mkF m pc Ls (.int (lcmpW x y) :: St)) :=
  w_if_ne X hx hd hf ho hp (fun q => kT (fun r => q ((lw_eq x y).2 r))) (fun q => kF ((lw_eq x y).1 q))
theorem w_ldc (X : Stand p l e R s m args below meth c T locs cells slots) (hx : p.tables.exec = Jvm.exec) (hZ : Z.Warmed39 s.vm) {own : String} {index : Nat} {v : Int32} (hown : s.vm.findClass own = some m.cls) (w : (Jvm.Cond.constant own index v).before a0 Z = true) (hd : decode c.code pc = .ok (.ldc index, 2)) (hp : pc + 2 = pc')
    (kk : Go p e below s cm sm Q T (mkF m pc' Ls (.int v :: St))) : Go p e below s cm sm Q T (mkF m pc Ls St) := by
  subst hp
  exact Go.st (fun t q => X.ldcInt hx hown (mvT hZ w) (g := mkF m pc Ls St) rfl hd t q) kk
theorem w_ldcw (X : Stand p l e R s m args below meth c T locs cells slots) (hx : p.tables.exec = Jvm.exec) (hZ : Z.Warmed39 s.vm) {own : String} {index : Nat} {v : Int32} (hown : s.vm.findClass own = some m.cls) (w : (Jvm.Cond.constant own index v).before a0 Z = true) (hd : decode c.code pc = .ok (.ldc_w index, 3)) (hp : pc + 3 = pc')
    (kk : Go p e below s cm sm Q T (mkF m pc' Ls (.int v :: St))) : Go p e below s cm sm Q T (mkF m pc Ls St) := by
  subst hp
  exact Go.st (fun t q => X.ldcWI hx hown (mvT hZ w) (g := mkF m pc Ls St) rfl hd q) kk
theorem w_ldc2 (X : Stand p l e R s m args below meth c T locs cells slots) (hx : p.tables.exec = Jvm.exec) (hZ : Z.Warmed39 s.vm) {own : String} {index : Nat} {v : Int64} (hown : s.vm.findClass own = some m.cls) (w : (Jvm.Cond.constantLong own index v).before a0 Z = true) (hd : decode c.code pc = .ok (.ldc2_w index, 3)) (hp : pc + 3 = pc')
    (kk : Go p e below s cm sm Q T (mkF m pc' Ls (.long v :: St))) : Go p e below s cm sm Q T (mkF m pc Ls St) := by
  subst hp
  exact Go.st (fun t q => X.ldc2Long hx hown (mvT hZ w) (g := mkF m pc Ls St) rfl hd t q) kk
theorem w_retZ (X : Stand p l e R s m args below meth c T locs cells slots) (hx : p.tables.exec = Jvm.exec) (hret : meth.sig.returnType = some .boolean) (hlk : meth.locks = false) {z : Int32} (hd : decode c.code pc = .ok (.ireturn, 1)) (hc : cells ≤ cm) (hs : slots ≤ sm) (hQ : Q (some (.int (nar .boolean z))) T.heap locs) : Go p e below s cm sm Q T (mkF m pc Ls (.int z :: St)) := by
  obtain ⟨fs, hr, hrun, hended, hW, hsame⟩ := X.leave (v := some (.int (nar .boolean z))) (fun h => by rw [hret] at h; cases h) hlk
  exact ⟨_, _, retN X hx (t := .boolean) hret (by simp) hd hr, hrun, hended, _, _, rfl, hQ, ⟨_, rfl⟩, hW, hsame.mono hc hs⟩
theorem w_retB (X : Stand p l e R s m args below meth c T locs cells slots) (hx : p.tables.exec = Jvm.exec) (hret : meth.sig.returnType = some .byte) (hlk : meth.locks = false) {z : Int32} (hd : decode c.code pc = .ok (.ireturn, 1)) (hc : cells ≤ cm) (hs : slots ≤ sm) (hQ : Q (some (.int (nar .byte z))) T.heap locs) : Go p e below s cm sm Q T (mkF m pc Ls (.int z :: St)) := by
  obtain ⟨fs, hr, hrun, hended, hW, hsame⟩ := X.leave (v := some (.int (nar .byte z))) (fun h => by rw [hret] at h; cases h) hlk
  exact ⟨_, _, retN X hx (t := .byte) hret (by simp) hd hr, hrun, hended, _, _, rfl, hQ, ⟨_, rfl⟩, hW, hsame.mono hc hs⟩
theorem w_retC (X : Stand p l e R s m args below meth c T locs cells slots) (hx : p.tables.exec = Jvm.exec) (hret : meth.sig.returnType = some .char) (hlk : meth.locks = false) {z : Int32} (hd : decode c.code pc = .ok (.ireturn, 1)) (hc : cells ≤ cm) (hs : slots ≤ sm) (hQ : Q (some (.int (nar .char z))) T.heap locs) : Go p e below s cm sm Q T (mkF m pc Ls (.int z :: St)) := by
  obtain ⟨fs, hr, hrun, hended, hW, hsame⟩ := X.leave (v := some (.int (nar .char z))) (fun h => by rw [hret] at h; cases h) hlk
  exact ⟨_, _, retN X hx (t := .char) hret (by simp) hd hr, hrun, hended, _, _, rfl, hQ, ⟨_, rfl⟩, hW, hsame.mono hc hs⟩
theorem w_retS (X : Stand p l e R s m args below meth c T locs cells slots) (hx : p.tables.exec = Jvm.exec) (hret : meth.sig.returnType = some .short) (hlk : meth.locks = false) {z : Int32} (hd : decode c.code pc = .ok (.ireturn, 1)) (hc : cells ≤ cm) (hs : slots ≤ sm) (hQ : Q (some (.int (nar .short z))) T.heap locs) : Go p e below s cm sm Q T (mkF m pc Ls (.int z :: St)) := by
  obtain ⟨fs, hr, hrun, hended, hW, hsame⟩ := X.leave (v := some (.int (nar .short z))) (fun h => by rw [hret] at h; cases h) hlk
  exact ⟨_, _, retN X hx (t := .short) hret (by simp) hd hr, hrun, hended, _, _, rfl, hQ, ⟨_, rfl⟩, hW, hsame.mono hc hs⟩
theorem w_retI (X : Stand p l e R s m args below meth c T locs cells slots) (hx : p.tables.exec = Jvm.exec) (hret : meth.sig.returnType = some .int) (hlk : meth.locks = false) {z : Int32} (hd : decode c.code pc = .ok (.ireturn, 1)) (hc : cells ≤ cm) (hs : slots ≤ sm) (hQ : Q (some (.int z)) T.heap locs) : Go p e below s cm sm Q T (mkF m pc Ls (.int z :: St)) := by
  obtain ⟨fs, hr, hrun, hended, hW, hsame⟩ := X.leave (v := some (.int z)) (fun h => by rw [hret] at h; cases h) hlk
  refine ⟨T.setFrames fs, _, ?_, hrun, hended, _, _, rfl, hQ, ⟨_, rfl⟩, hW, hsame.mono hc hs⟩
  have hm' : T.vm.method? m = some meth := X.method'
  have hn : narrow .int (.int z) = .int z := rfl
  show Steps p.tables e below (T.setTop { method := m, pc := pc, locals := Ls, stack := .int z :: St, locked := none }) _
  jvm_step X.here [X.here.top, hx, hd, hm', hret, hn]
  first | (intro acts; rw [hr _ acts rfl rfl rfl]) | rw [hr _ _ rfl rfl rfl]
  exact Steps.refl _
theorem w_retJ (X : Stand p l e R s m args below meth c T locs cells slots) (hx : p.tables.exec = Jvm.exec) (hret : meth.sig.returnType = some .long) (hlk : meth.locks = false) {z : Int64} (hd : decode c.code pc = .ok (.lreturn, 1)) (hc : cells ≤ cm) (hs : slots ≤ sm) (hQ : Q (some (.long z)) T.heap locs) : Go p e below s cm sm Q T (mkF m pc Ls [.long z]) := by
  obtain ⟨fs, hr, hrun, hended, hW, hsame⟩ := X.leave (v := some (.long z)) (fun h => by rw [hret] at h; cases h) hlk
  exact ⟨T.setFrames fs, _, X.lreturnOut hx hret hd hr, hrun, hended, _, _, rfl, hQ, ⟨_, rfl⟩, hW, hsame.mono hc hs⟩
theorem w_retV (X : Stand p l e R s m args below meth c T locs cells slots) (hx : p.tables.exec = Jvm.exec) (hret : meth.sig.returnType = none) (hlk : meth.locks = false) (hd : decode c.code pc = .ok (.return_, 1)) (hc : cells ≤ cm) (hs : slots ≤ sm) (hQ : Q none T.heap locs) : Go p e below s cm sm Q T (mkF m pc Ls []) := by
  obtain ⟨fs, hr, hrun, hended, hW, hsame⟩ := X.leave (v := none) (fun _ => rfl) hlk
  exact ⟨T.setFrames fs, _, X.returnOut hx hret hd hr, hrun, hended, _, _, rfl, hQ, ⟨_, rfl⟩, hW, hsame.mono hc hs⟩
theorem w_retA (X : Stand p l e R s m args below meth c T locs cells slots) (hx : p.tables.exec = Jvm.exec) {rt : FieldType} (hret : meth.sig.returnType = some rt) (hrt : rt.isReference = true) (hlk : meth.locks = false) {a : Addr} (hd : decode c.code pc = .ok (.areturn, 1)) (hc : cells ≤ cm) (hs : slots ≤ sm) (hQ : Q (some (.ref a)) T.heap locs) : Go p e below s cm sm Q T (mkF m pc Ls (.ref a :: St)) := by
  obtain ⟨fs, hr, hrun, hended, hW, hsame⟩ := X.leave (v := some (.ref a)) (fun h => by rw [hret] at h; cases h) hlk
  refine ⟨T.setFrames fs, _, ?_, hrun, hended, _, _, rfl, hQ, ⟨_, rfl⟩, hW, hsame.mono hc hs⟩
  have hm' : T.vm.method? m = some meth := X.method'
  show Steps p.tables e below (T.setTop { method := m, pc := pc, locals := Ls, stack := .ref a :: St, locked := none }) _
  jvm_step X.here [X.here.top, hx, hd, hm', hret, Value.isRef, hrt]
  first | (intro acts; rw [hr _ acts rfl rfl rfl]) | rw [hr _ _ rfl rfl rfl]
  exact Steps.refl _
theorem Con.back {y : MethodName} {bytes : ByteArray} {maxL : Nat} {ret : Option FieldType} {rm : Room} {len W : Nat} {as' : Array Value} {Qc : Option Value → Heap → List Loc → Prop} (C : Con l Z y bytes maxL ret rm as' h Qc) (hZ : Z.Warmed39 s.vm) (wc : (Jvm.Cond.code y bytes maxL ret).before a0 Z = true) (wz : (Jvm.Cond.initialized y.cls).before a0 Z = true) (hf : rm.frames + 1 ≤ R.frames) (hl : W + (maxL + 11) + rm.locals ≤ R.locals) :
    Back l R p e below s args y len W (fun A a => a = as' ∧ A.U.heap = h ∧ A.cells + rm.cells ≤ R.cells ∧ A.slots + rm.slots ≤ R.slots) (fun A _ v B => ∃ L, Qc v B.U.heap L ∧ B.locs = A.locs ++ L ∧ B.cells = A.cells + rm.cells ∧ B.slots = A.slots + rm.slots) :=
  backOf (C []) hZ wc wz hf hl
theorem w_callS (X : Stand p l e R s m args below meth c T locs cells slots) (hx : p.tables.exec = Jvm.exec) (hZ : Z.Warmed39 s.vm) {own : String} {index : Nat} {y : MethodName} {bytes : ByteArray} {maxL : Nat} {ret : Option FieldType} {rm : Room} {W : Nat} {argsL rest : List Value} {Qc : Option Value → Heap → List Loc → Prop} (hown : s.vm.findClass own = some m.cls) (eT : T.heap = h) (C : Con l Z y bytes maxL ret rm argsL.toArray h Qc) (w1 : (Jvm.Cond.methodLink own index y).before a0 Z = true) (w2 : (Jvm.Cond.static y).before a0 Z = true) (w3 : (Jvm.Cond.initialized y.cls).before a0 Z = true) (w4 : (Jvm.Cond.code y bytes maxL ret).before a0 Z = true) (hy : y.cls ≠ "java/lang/invoke/MethodHandle" ∧ y.cls ≠ "java/lang/invoke/VarHandle")
    (hf : rm.frames + 1 ≤ R.frames) (hl : W + (maxL + 11) + rm.locals ≤ R.locals) (hc : cells + rm.cells ≤ R.cells) (hs : slots + rm.slots ≤ R.slots) (hsz : Ls.size = c.maxLocals) (hlen : ∀ sig, parseMethodDescriptor y.desc = some sig → argsL.length = sig.parameters.length) (hW : (rest.map fun v => v.category).sum ≤ W) (hst : St = argsL.reverse ++ rest) (hd : decode c.code pc = .ok (.invokestatic index, 3)) (hp : pc + 3 = pc')
    (kk : ∀ (T' : State) (L : List Loc) (v : Option Value), Stand p l e R s m args below meth c T' (locs ++ L) (cells + rm.cells) (slots + rm.slots) → Qc v T'.heap L → Go p e below s cm sm Q T' (mkF m pc' Ls (v.toList ++ rest))) : Go p e below s cm sm Q T (mkF m pc Ls St) := by
  subst hp hst
  obtain ⟨v, _, ⟨T1, L1, k1, n1⟩, -, X1, ⟨Lc, hQ, l1, y1, z1⟩, st⟩ := Jvm.LawKit.callS X hx (y := y) hown (mvT hZ w1) (mvT hZ w2) (mvT hZ w3) (mvT hZ w4) hy (C.back (W := W) hZ w4 w3 hf hl) (g := mkF m pc Ls (argsL.reverse ++ rest)) rfl hsz (argsL := argsL) (rest := rest) hlen rfl (by show 2 * 0 + _ ≤ _; rw [Nat.mul_zero, Nat.zero_add]; exact hW) hd (fun _ _ => ⟨rfl, eT, hc, hs⟩)
  dsimp only [Pt.U, Pt.locs, Pt.cells, Pt.slots] at X1 l1 y1 z1 st hQ
  subst l1 y1 z1
  exact Go.st st (kk _ _ _ X1 hQ)
theorem w_callI (X : Stand p l e R s m args below meth c T locs cells slots) (hx : p.tables.exec = Jvm.exec) (hZ : Z.Warmed39 s.vm) {own : String} {index : Nat} {y : MethodName} {bytes : ByteArray} {maxL : Nat} {rm : Room} {W : Nat} {argsL rest : List Value} {Qc : Option Value → Heap → List Loc → Prop} {a : Addr} (hown : s.vm.findClass own = some m.cls) (eT : T.heap = h) (C : Con l Z y bytes maxL none rm (.ref a :: argsL).toArray h Qc) (hn : y.name = "<init>") (w1 : (Jvm.Cond.methodLink own index y).before a0 Z = true) (w2 : (Jvm.Cond.instanceMethod y).before a0 Z = true) (w3 : (Jvm.Cond.initialized y.cls).before a0 Z = true) (w4 : (Jvm.Cond.code y bytes maxL none).before a0 Z = true) (hy : y.cls ≠ "java/lang/invoke/MethodHandle" ∧ y.cls ≠ "java/lang/invoke/VarHandle")
    (hf : rm.frames + 1 ≤ R.frames) (hl : W + (maxL + 11) + rm.locals ≤ R.locals) (hc : cells + rm.cells ≤ R.cells) (hs : slots + rm.slots ≤ R.slots) (hsz : Ls.size = c.maxLocals) (hlen : ∀ sig, parseMethodDescriptor y.desc = some sig → argsL.length = sig.parameters.length) (hW : (rest.map fun v => v.category).sum ≤ W) (hst : St = argsL.reverse ++ .ref a :: rest) (hd : decode c.code pc = .ok (.invokespecial index, 3)) (hp : pc + 3 = pc')
    (kk : ∀ (T' : State) (L : List Loc) (v : Option Value), Stand p l e R s m args below meth c T' (locs ++ L) (cells + rm.cells) (slots + rm.slots) → Qc v T'.heap L → Go p e below s cm sm Q T' (mkF m pc' Ls (v.toList ++ rest))) : Go p e below s cm sm Q T (mkF m pc Ls St) := by
  subst hp hst
  obtain ⟨v, _, ⟨T1, L1, k1, n1⟩, -, X1, ⟨Lc, hQ, l1, y1, z1⟩, st⟩ := X.specialBack hx (y := y) hn hown (mvT hZ w1) (mvT hZ w2) (mvT hZ w4) hy (C.back (W := W) hZ w4 w3 hf hl) (g := mkF m pc Ls (argsL.reverse ++ .ref a :: rest)) rfl hsz (Steps.refl _) (a := a) (argsL := argsL) (rest := rest) hlen rfl (by show 2 * 0 + _ ≤ _; rw [Nat.mul_zero, Nat.zero_add]; exact hW) hd (fun _ _ => ⟨rfl, eT, hc, hs⟩)
  dsimp only [Pt.U, Pt.locs, Pt.cells, Pt.slots] at X1 l1 y1 z1 st hQ
  subst l1 y1 z1
  exact Go.st (fun t q => st.trans q) (kk _ _ _ X1 hQ)
theorem w_callV (X : Stand p l e R s m args below meth c T locs cells slots) (hx : p.tables.exec = Jvm.exec) (hZ : Z.Warmed39 s.vm) {own : String} {index : Nat} {y : MethodName} {bytes : ByteArray} {maxL : Nat} {ret : Option FieldType} {rm : Room} {W : Nat} {argsL rest : List Value} {Qc : Option Value → Heap → List Loc → Prop} {a : Addr} (hown : s.vm.findClass own = some m.cls) (eT : T.heap = h) (E : Exa Z h a y.cls) (C : Con l Z y bytes maxL ret rm (.ref a :: argsL).toArray h Qc) (w1 : (Jvm.Cond.methodLink own index y).before a0 Z = true) (wd : (Jvm.Cond.declares y).before a0 Z = true) (ws : (Jvm.Cond.selects y.cls y y).before a0 Z = true) (w2 : (Jvm.Cond.instanceMethod y).before a0 Z = true) (w3 : (Jvm.Cond.initialized y.cls).before a0 Z = true) (w4 : (Jvm.Cond.code y bytes maxL ret).before a0 Z = true) (hy : y.cls ≠ "java/lang/invoke/MethodHandle" ∧ y.cls ≠ "java/lang/invoke/VarHandle")
    (hf : rm.frames + 1 ≤ R.frames) (hl : W + (maxL + 11) + rm.locals ≤ R.locals) (hc : cells + rm.cells ≤ R.cells) (hs : slots + rm.slots ≤ R.slots) (hsz : Ls.size = c.maxLocals) (hlen : ∀ sig, parseMethodDescriptor y.desc = some sig → argsL.length = sig.parameters.length) (hW : (rest.map fun v => v.category).sum ≤ W) (hst : St = argsL.reverse ++ .ref a :: rest) (hd : decode c.code pc = .ok (.invokevirtual index, 3)) (hp : pc + 3 = pc')
    (kk : ∀ (T' : State) (L : List Loc) (v : Option Value), Stand p l e R s m args below meth c T' (locs ++ L) (cells + rm.cells) (slots + rm.slots) → Qc v T'.heap L → Go p e below s cm sm Q T' (mkF m pc' Ls (v.toList ++ rest))) : Go p e below s cm sm Q T (mkF m pc Ls St) := by
  subst hp hst
  obtain ⟨cq, kq, qa, qb, qc⟩ := isOf hZ eT E
  obtain ⟨v, _, ⟨T1, L1, k1, n1⟩, -, X1, ⟨Lc, hQ, l1, y1, z1⟩, st⟩ := X.virtualBack hx (y := y) (z := y) hown (mvT hZ w1) (mvT hZ wd) (notFace_of_selects (args := #[]) (mvT hZ ws)) (mvT hZ ws) (mvT hZ w2) hy (C.back (W := W) hZ w4 w3 hf hl) qa qc (g := mkF m pc Ls (argsL.reverse ++ .ref a :: rest)) rfl hsz (Steps.refl _) (argsL := argsL) (rest := rest) hlen rfl (by show 2 * 0 + _ ≤ _; rw [Nat.mul_zero, Nat.zero_add]; exact hW) hd (fun _ _ => ⟨rfl, eT, hc, hs⟩)
  dsimp only [Pt.U, Pt.locs, Pt.cells, Pt.slots] at X1 l1 y1 z1 st hQ
  subst l1 y1 z1
  exact Go.st (fun t q => st.trans q) (kk _ _ _ X1 hQ)
theorem w_initO (X : Stand p l e R s m args below meth c T locs cells slots) (hx : p.tables.exec = Jvm.exec) (hZ : Z.Warmed39 s.vm) {own : String} {index : Nat} {a : Addr} (hown : s.vm.findClass own = some m.cls) (eT : T.heap = h) (w1 : (Jvm.Cond.methodLink own index Lib.objectInit).before a0 Z = true) (w2 : (Jvm.Cond.instanceMethod Lib.objectInit).before a0 Z = true) (w3 : (Jvm.Cond.code Lib.objectInit ⟨#[0xb1]⟩ 1 none).before a0 Z = true) (hsz : Ls.size = c.maxLocals) (hd : decode c.code pc = .ok (.invokespecial index, 3)) (hf : 1 ≤ R.frames) {W : Nat} (hW : (St.map fun v => v.category).sum ≤ W) (hl : W + 12 ≤ R.locals) (hp : pc + 3 = pc')
    (kk : ∀ T' : State, Stand p l e R s m args below meth c T' locs cells slots → T'.heap = h → Go p e below s cm sm Q T' (mkF m pc' Ls St)) : Go p e below s cm sm Q T (mkF m pc Ls (.ref a :: St)) := by
  subst hp
  obtain ⟨T1, X1, e1, st⟩ := initO X hx hZ hown w1 w2 w3 eT (g := mkF m pc Ls (.ref a :: St)) rfl hsz rfl hd hf (W := W) (by show 2 * 0 + _ ≤ _; rw [Nat.mul_zero, Nat.zero_add]; exact hW) hl
  exact Go.st st (kk _ X1 e1)
theorem w_getF (X : Stand p l e R s m args below meth c T locs cells slots) (hx : p.tables.exec = Jvm.exec) (hZ : Z.Warmed39 s.vm) {own O n d : String} {index : Nat} {a : Addr} {v : Value} (hown : s.vm.findClass own = some m.cls) (eT : T.heap = h) (F : Fld Z h a O n d v) (w : (Jvm.Cond.fieldLink own index O n d).before a0 Z = true) (hd : decode c.code pc = .ok (.getfield index, 3)) (hp : pc + 3 = pc')
    (kk : ∀ T' : State, Stand p l e R s m args below meth c T' locs cells slots → T'.heap = h → Go p e below s cm sm Q T' (mkF m pc' Ls (v :: St))) : Go p e below s cm sm Q T (mkF m pc Ls (.ref a :: St)) := by
  subst hp
  obtain ⟨T1, X1, e1, st⟩ := getF X hx hZ hown (host := "") (Or.inl w) Via.refl eT F (g := mkF m pc Ls (.ref a :: St)) rfl rfl hd
  exact Go.st st (kk _ X1 e1)
theorem w_putF (X : Stand p l e R s m args below meth c T locs cells slots) (hx : p.tables.exec = Jvm.exec) (hZ : Z.Warmed39 s.vm) {own O n d C : String} {index kn : Nat} {ty : FieldType} {a : Addr} {v old : Value} (hown : s.vm.findClass own = some m.cls) (eT : T.heap = h) (F : Fld Z h a O n d old) (E : Exa Z h a C) (w : (Jvm.Cond.fieldLink own index O n d).before a0 Z = true) (L : (Jvm.Cond.lays C O n d).before a0 Z = true ∨ ((Jvm.Cond.laysFinal C O n d).before a0 Z = true ∧ own = O ∧ meth.name = "<init>")) (wi : (Jvm.Cond.instantiable C kn).before a0 Z = true) (hty : parseFieldDescriptor d = some ty) (hn : narrow ty v = v) (hf : fits ty v = true) (hd : decode c.code pc = .ok (.putfield index, 3)) (hp : pc + 3 = pc')
    (kk : ∀ (T' : State) (h' : Heap), Stand p l e R s m args below meth c T' (locs ++ [⟨a, RoadKit.slotOf Z O n d⟩]) cells slots → T'.heap = h' → Wr h h' a (RoadKit.slotOf Z O n d) v → Go p e below s cm sm Q T' (mkF m pc' Ls St)) : Go p e below s cm sm Q T (mkF m pc Ls (v :: .ref a :: St)) := by
  subst hp
  obtain ⟨T1, h1, X1, e1, W1, st⟩ := putF X hx hZ hown (host := "") (Or.inl w) Via.refl eT F E L wi hty hn hf (g := mkF m pc Ls (v :: .ref a :: St)) rfl rfl hd
  exact Go.st st (kk _ _ X1 e1 W1)
theorem w_newO (X : Stand p l e R s m args below meth c T locs cells slots) (hx : p.tables.exec = Jvm.exec) (hZ : Z.Warmed39 s.vm) {own C : String} {index kn : Nat} (hown : s.vm.findClass own = some m.cls) (eT : T.heap = h) (w : (Jvm.Cond.classLink own index C).before a0 Z = true) (wi : (Jvm.Cond.instantiable C kn).before a0 Z = true) (wz : (Jvm.Cond.initialized C).before a0 Z = true) (hd : decode c.code pc = .ok (.new index, 3)) (hc : cells + 1 ≤ R.cells) (hl : slots + kn ≤ R.slots) (hp : pc + 3 = pc')
    (kk : ∀ (T' : State) (h' : Heap) (b : Addr), Stand p l e R s m args below meth c T' locs (cells + 1) (slots + kn) → T'.heap = h' → Ext h h' → b = h.size → Exa Z h' b C → (∀ {O nm d : String} {ty : FieldType}, Laid Z a0 C O nm d → parseFieldDescriptor d = some ty → Fld Z h' b O nm d (defaultValue ty)) → Go p e below s cm sm Q T' (mkF m pc' Ls (.ref b :: St))) : Go p e below s cm sm Q T (mkF m pc Ls St) := by
  subst hp
  obtain ⟨T1, h1, X1, e1, E1, A1, D1, -, st⟩ := newO X hx hZ hown w wi wz eT (g := mkF m pc Ls St) rfl hd hc hl
  exact Go.st st (kk _ _ _ X1 e1 E1 rfl A1 D1)
/-- an array of ints, bytes, chars, shorts or booleans, by its list -/
def AI (Z : State) (h : Heap) (a : Addr) (ty : FieldType) (vs : List Int32) : Prop := ∃ c : Cell, Arr Z h a c ty ∧ c.slots.toList = vs.map Value.int ∧ vs.length < 2147483648
/-- an array of longs, by its list -/
def AJ (Z : State) (h : Heap) (a : Addr) (vs : List Int64) : Prop := ∃ c : Cell, Arr Z h a c .long ∧ c.slots.toList = vs.map Value.long ∧ vs.length < 2147483648
theorem AI.lt {a : Addr} {ty : FieldType} {vs : List Int32} (F : AI Z h a ty vs) : a < h.size := by obtain ⟨c, q, -⟩ := F; exact q.lt
theorem AI.ext {a : Addr} {ty : FieldType} {vs : List Int32} (F : AI Z h a ty vs) (E : Ext h h') : AI Z h' a ty vs := by obtain ⟨c, q, r⟩ := F; exact ⟨c, q.ext E, r⟩
theorem AI.other {a b : Addr} {ty : FieldType} {vs : List Int32} {sl : Nat} {v : Value} (F : AI Z h a ty vs) (W : Wr h h' b sl v) (q : a ≠ b) : AI Z h' a ty vs := by obtain ⟨c, A, r⟩ := F; exact ⟨c, A.other W q, r⟩
theorem AI.keep {a : Addr} {ty : FieldType} {vs : List Int32} {ws : List Addr} (F : AI Z h a ty vs) (K : Keep h h' ws) (q : a ∉ ws) : AI Z h' a ty vs := by obtain ⟨c, A, r⟩ := F; exact ⟨c, ⟨K.2.1 a c A.1 q, A.2⟩, r⟩
theorem AI.new {a : Addr} {k : ClassId} {z : Int32} {ty : FieldType} (A : Arr Z h a (newA k ty z) ty) (hd : defaultValue ty = .int 0) : AI Z h a ty (List.replicate z.toNatClampNeg 0) := by
  refine ⟨_, A, ?_, ?_⟩
  · simp [newA, hd]
  · have := z.toInt_lt; rw [List.length_replicate]; show z.toInt.toNat < _; omega
theorem AI.wr {a : Addr} {ty : FieldType} {vs : List Int32} {j : Nat} {x : Int32} (F : AI Z h a ty vs) (W : Wr h h' a j (Value.int x)) : AI Z h' a ty (vs.set j x) := by
  obtain ⟨c, A, q, r⟩ := F
  refine ⟨_, A.same W, ?_, by simpa using r⟩
  simp [Cell.setSlot, q, List.map_set]
theorem AI.len {a : Addr} {ty : FieldType} {vs : List Int32} (F : AI Z h a ty vs) : vs.length < 2147483648 := by obtain ⟨c, q, r, t⟩ := F; exact t
theorem AI.sz {vs : List Int32} {c : Cell} (q : c.slots.toList = vs.map Value.int) : c.slots.size = vs.length := by
  have := congrArg List.length q; simpa using this
theorem AI.at {vs : List Int32} {c : Cell} {j : Nat} {x : Int32} (q : c.slots.toList = vs.map Value.int) (hv : vs[j]? = some x) : c.slots[j]? = some (Value.int x) := by
  rw [← Array.getElem?_toList, q]; simp [hv]
theorem AI.inb {vs : List Int32} {c : Cell} {j : Int32} (q : c.slots.toList = vs.map Value.int) (hj : ¬ j < 0) (hl : j.toNatClampNeg < vs.length) : ¬ (j < 0 ∨ c.slots.size ≤ j.toNatClampNeg) := by
  have := AI.sz q
  rw [this]
  rintro (r | r)
  · exact hj r
  · omega
theorem AJ.lt {a : Addr} {vs : List Int64} (F : AJ Z h a vs) : a < h.size := by obtain ⟨c, q, -⟩ := F; exact q.lt
theorem AJ.ext {a : Addr} {vs : List Int64} (F : AJ Z h a vs) (E : Ext h h') : AJ Z h' a vs := by obtain ⟨c, q, r⟩ := F; exact ⟨c, q.ext E, r⟩
theorem AJ.other {a b : Addr} {vs : List Int64} {sl : Nat} {v : Value} (F : AJ Z h a vs) (W : Wr h h' b sl v) (q : a ≠ b) : AJ Z h' a vs := by obtain ⟨c, A, r⟩ := F; exact ⟨c, A.other W q, r⟩
theorem AJ.keep {a : Addr} {vs : List Int64} {ws : List Addr} (F : AJ Z h a vs) (K : Keep h h' ws) (q : a ∉ ws) : AJ Z h' a vs := by obtain ⟨c, A, r⟩ := F; exact ⟨c, ⟨K.2.1 a c A.1 q, A.2⟩, r⟩
theorem AJ.new {a : Addr} {k : ClassId} {z : Int32} (A : Arr Z h a (newA k .long z) .long) : AJ Z h a (List.replicate z.toNatClampNeg 0) := by
  refine ⟨_, A, ?_, ?_⟩
  · simp [newA, defaultValue]
  · have := z.toInt_lt; rw [List.length_replicate]; show z.toInt.toNat < _; omega
theorem AJ.wr {a : Addr} {vs : List Int64} {j : Nat} {x : Int64} (F : AJ Z h a vs) (W : Wr h h' a j (Value.long x)) : AJ Z h' a (vs.set j x) := by
  obtain ⟨c, A, q, r⟩ := F
  refine ⟨_, A.same W, ?_, by simpa using r⟩
  simp [Cell.setSlot, q, List.map_set]
theorem AJ.len {a : Addr} {vs : List Int64} (F : AJ Z h a vs) : vs.length < 2147483648 := by obtain ⟨c, q, r, t⟩ := F; exact t
theorem AJ.sz {vs : List Int64} {c : Cell} (q : c.slots.toList = vs.map Value.long) : c.slots.size = vs.length := by
  have := congrArg List.length q; simpa using this
theorem AJ.at {vs : List Int64} {c : Cell} {j : Nat} {x : Int64} (q : c.slots.toList = vs.map Value.long) (hv : vs[j]? = some x) : c.slots[j]? = some (Value.long x) := by
  rw [← Array.getElem?_toList, q]; simp [hv]
theorem AJ.inb {vs : List Int64} {c : Cell} {j : Int32} (q : c.slots.toList = vs.map Value.long) (hj : ¬ j < 0) (hl : j.toNatClampNeg < vs.length) : ¬ (j < 0 ∨ c.slots.size ≤ j.toNatClampNeg) := by
  have := AJ.sz q
  rw [this]
  rintro (r | r)
  · exact hj r
  · omega
theorem w_iaload (X : Stand p l e R s m args below meth c T locs cells slots) (hx : p.tables.exec = Jvm.exec) (hZ : Z.Warmed39 s.vm) {a : Addr} {vs : List Int32} {j : Int32} {v : Int32} (eT : T.heap = h) (F : AI Z h a .int vs) (hj : ¬ j < 0) (hv : vs[j.toNatClampNeg]? = some v) (hd : decode c.code pc = .ok (.iaload, 1)) (hp : pc + 1 = pc')
    (kk : Go p e below s cm sm Q T (mkF m pc' Ls (Value.int v :: St))) : Go p e below s cm sm Q T (mkF m pc Ls (.int j :: .ref a :: St)) := by
  subst hp
  obtain ⟨cl, A, q, r⟩ := F
  exact Go.st (fun t k => X.iaload hx (j := j) (v := Value.int v) (by rw [eT]; exact A.1) (State.isArrayOf_alike hZ.alike A.2.1) A.2.2 (AI.inb q hj (List.getElem?_eq_some_iff.mp hv).1) (AI.at q hv) (g := mkF m pc Ls (.int j :: .ref a :: St)) rfl rfl hd t k) kk
theorem w_baload (X : Stand p l e R s m args below meth c T locs cells slots) (hx : p.tables.exec = Jvm.exec) (hZ : Z.Warmed39 s.vm) {a : Addr} {vs : List Int32} {j : Int32} {v : Int32} (eT : T.heap = h) (F : AI Z h a .byte vs) (hj : ¬ j < 0) (hv : vs[j.toNatClampNeg]? = some v) (hd : decode c.code pc = .ok (.baload, 1)) (hp : pc + 1 = pc')
    (kk : Go p e below s cm sm Q T (mkF m pc' Ls (Value.int v :: St))) : Go p e below s cm sm Q T (mkF m pc Ls (.int j :: .ref a :: St)) := by
  subst hp
  obtain ⟨cl, A, q, r⟩ := F
  exact Go.st (fun t k => X.baloadBytes hx (j := j) (v := Value.int v) (by rw [eT]; exact A.1) (State.isArrayOf_alike hZ.alike A.2.1) A.2.2 (AI.inb q hj (List.getElem?_eq_some_iff.mp hv).1) (AI.at q hv) (g := mkF m pc Ls (.int j :: .ref a :: St)) rfl rfl hd t k) kk
theorem w_laload (X : Stand p l e R s m args below meth c T locs cells slots) (hx : p.tables.exec = Jvm.exec) (hZ : Z.Warmed39 s.vm) {a : Addr} {vs : List Int64} {j : Int32} {v : Int64} (eT : T.heap = h) (F : AJ Z h a vs) (hj : ¬ j < 0) (hv : vs[j.toNatClampNeg]? = some v) (hd : decode c.code pc = .ok (.laload, 1)) (hp : pc + 1 = pc')
    (kk : Go p e below s cm sm Q T (mkF m pc' Ls (Value.long v :: St))) : Go p e below s cm sm Q T (mkF m pc Ls (.int j :: .ref a :: St)) := by
  subst hp
  obtain ⟨cl, A, q, r⟩ := F
  exact Go.st (fun t k => X.laload hx (j := j) (v := Value.long v) (by rw [eT]; exact A.1) (State.isArrayOf_alike hZ.alike A.2.1) A.2.2 (AJ.inb q hj (List.getElem?_eq_some_iff.mp hv).1) (AJ.at q hv) (g := mkF m pc Ls (.int j :: .ref a :: St)) rfl rfl hd t k) kk
theorem w_iastore (X : Stand p l e R s m args below meth c T locs cells slots) (hx : p.tables.exec = Jvm.exec) (hZ : Z.Warmed39 s.vm) {a : Addr} {vs : List Int32} {j : Int32} {x : Int32} (eT : T.heap = h) (F : AI Z h a .int vs) (hj : ¬ j < 0) (hl : j.toNatClampNeg < vs.length) (hd : decode c.code pc = .ok (.iastore, 1)) (hp : pc + 1 = pc')
    (kk : ∀ (T' : State) (h' : Heap), Stand p l e R s m args below meth c T' (locs ++ [⟨a, j.toNatClampNeg⟩]) cells slots → T'.heap = h' → Wr h h' a j.toNatClampNeg (Value.int x) → AI Z h' a .int (vs.set j.toNatClampNeg x) → Go p e below s cm sm Q T' (mkF m pc' Ls St)) : Go p e below s cm sm Q T (mkF m pc Ls (Value.int x :: .int j :: .ref a :: St)) := by
  subst hp
  obtain ⟨cl, A, q, r⟩ := F
  obtain ⟨T1, h1, X1, e1, W1, st⟩ := RoadKit.stI X hx hZ eT A (j := j) (x := x) (AI.inb q hj hl) (g := mkF m pc Ls (Value.int x :: .int j :: .ref a :: St)) rfl rfl hd
  exact Go.st st (kk _ _ X1 e1 W1 (AI.wr ⟨cl, A, q, r⟩ W1))
theorem w_bastore (X : Stand p l e R s m args below meth c T locs cells slots) (hx : p.tables.exec = Jvm.exec) (hZ : Z.Warmed39 s.vm) {a : Addr} {vs : List Int32} {j : Int32} {x : Int32} (eT : T.heap = h) (F : AI Z h a .byte vs) (hj : ¬ j < 0) (hl : j.toNatClampNeg < vs.length) (hd : decode c.code pc = .ok (.bastore, 1)) (hp : pc + 1 = pc')
    (kk : ∀ (T' : State) (h' : Heap), Stand p l e R s m args below meth c T' (locs ++ [⟨a, j.toNatClampNeg⟩]) cells slots → T'.heap = h' → Wr h h' a j.toNatClampNeg (Value.int (nar .byte x)) → AI Z h' a .byte (vs.set j.toNatClampNeg (nar .byte x)) → Go p e below s cm sm Q T' (mkF m pc' Ls St)) : Go p e below s cm sm Q T (mkF m pc Ls (Value.int x :: .int j :: .ref a :: St)) := by
  subst hp
  obtain ⟨cl, A, q, r⟩ := F
  obtain ⟨T1, h1, X1, e1, W1, st⟩ := RoadKit.stB X hx hZ eT A (j := j) (x := x) (AI.inb q hj hl) (g := mkF m pc Ls (Value.int x :: .int j :: .ref a :: St)) rfl rfl hd
  exact Go.st st (kk _ _ X1 e1 W1 (AI.wr ⟨cl, A, q, r⟩ W1))
theorem w_lastore (X : Stand p l e R s m args below meth c T locs cells slots) (hx : p.tables.exec = Jvm.exec) (hZ : Z.Warmed39 s.vm) {a : Addr} {vs : List Int64} {j : Int32} {x : Int64} (eT : T.heap = h) (F : AJ Z h a vs) (hj : ¬ j < 0) (hl : j.toNatClampNeg < vs.length) (hd : decode c.code pc = .ok (.lastore, 1)) (hp : pc + 1 = pc')
    (kk : ∀ (T' : State) (h' : Heap), Stand p l e R s m args below meth c T' (locs ++ [⟨a, j.toNatClampNeg⟩]) cells slots → T'.heap = h' → Wr h h' a j.toNatClampNeg (Value.long x) → AJ Z h' a (vs.set j.toNatClampNeg x) → Go p e below s cm sm Q T' (mkF m pc' Ls St)) : Go p e below s cm sm Q T (mkF m pc Ls (Value.long x :: .int j :: .ref a :: St)) := by
  subst hp
  obtain ⟨cl, A, q, r⟩ := F
  obtain ⟨T1, h1, X1, e1, W1, st⟩ := RoadKit.stJ X hx hZ eT A (j := j) (x := x) (AJ.inb q hj hl) (g := mkF m pc Ls (Value.long x :: .int j :: .ref a :: St)) rfl rfl hd
  exact Go.st st (kk _ _ X1 e1 W1 (AJ.wr ⟨cl, A, q, r⟩ W1))
theorem w_alenI (X : Stand p l e R s m args below meth c T locs cells slots) (hx : p.tables.exec = Jvm.exec) (hZ : Z.Warmed39 s.vm) {a : Addr} {ty : FieldType} {vs : List Int32} {n : Int32} (eT : T.heap = h) (F : AI Z h a ty vs) (hn : vs.length.toInt32 = n) (hd : decode c.code pc = .ok (.arraylength, 1)) (hp : pc + 1 = pc')
    (kk : Go p e below s cm sm Q T (mkF m pc' Ls (.int n :: St))) : Go p e below s cm sm Q T (mkF m pc Ls (.ref a :: St)) := by
  subst hp hn
  obtain ⟨cl, A, q, r⟩ := F
  have hs := AI.sz q
  exact Go.st (fun t k => X.arraylength hx (by rw [eT]; exact A.1) (State.isArrayOf_alike hZ.alike A.2.1) (g := mkF m pc Ls (.ref a :: St)) rfl rfl hd t (by rw [hs]; exact k)) kk
theorem w_alenJ (X : Stand p l e R s m args below meth c T locs cells slots) (hx : p.tables.exec = Jvm.exec) (hZ : Z.Warmed39 s.vm) {a : Addr} {vs : List Int64} {n : Int32} (eT : T.heap = h) (F : AJ Z h a vs) (hn : vs.length.toInt32 = n) (hd : decode c.code pc = .ok (.arraylength, 1)) (hp : pc + 1 = pc')
    (kk : Go p e below s cm sm Q T (mkF m pc' Ls (.int n :: St))) : Go p e below s cm sm Q T (mkF m pc Ls (.ref a :: St)) := by
  subst hp hn
  obtain ⟨cl, A, q, r⟩ := F
  have hs := AJ.sz q
  exact Go.st (fun t k => X.arraylength hx (by rw [eT]; exact A.1) (State.isArrayOf_alike hZ.alike A.2.1) (g := mkF m pc Ls (.ref a :: St)) rfl rfl hd t (by rw [hs]; exact k)) kk
theorem w_up {c' s' : Nat} (X : Stand p l e R s m args below meth c T locs cells slots) (h1 : cells ≤ c') (h2 : slots ≤ s') : Stand p l e R s m args below meth c T locs c' s' :=
  ⟨X.admits, X.cas, X.clock, X.frames, X.room, X.hears, X.method, X.code, X.here, X.tail, X.warmed, X.limits, X.bytes, X.same.mono h1 h2⟩
theorem w_newI (X : Stand p l e R s m args below meth c T locs cells slots) (hx : p.tables.exec = Jvm.exec) (hZ : Z.Warmed39 s.vm) {n : Int32} {cap : Nat} (eT : T.heap = h) (w : (Jvm.Cond.arrayClass .int).before a0 Z = true) (hn : ¬ n < 0) (hcap : n.toNatClampNeg ≤ cap) (hb : cap * 8 ≤ 536870912) (hc : cells + 1 ≤ R.cells) (hl : slots + cap ≤ R.slots) (hd : decode c.code pc = .ok (.newarray .int, 2)) (hp : pc + 2 = pc')
    (kk : ∀ (T' : State) (h' : Heap) (b : Addr), Stand p l e R s m args below meth c T' locs (cells + 1) (slots + cap) → T'.heap = h' → Ext h h' → b = h.size → AI Z h' b .int (List.replicate n.toNatClampNeg 0) → Go p e below s cm sm Q T' (mkF m pc' Ls (.ref b :: St))) : Go p e below s cm sm Q T (mkF m pc Ls (.int n :: St)) := by
  subst hp
  obtain ⟨T1, h1, k1, X1, e1, E1, A1, st⟩ := newP X hx hZ (aty := .int) w eT (g := mkF m pc Ls (.int n :: St)) rfl hd rfl hn (cap := cap) hcap hb hc hl
  exact Go.st st (kk _ _ _ X1 e1 E1 rfl (AI.new A1 rfl))
theorem w_newB (X : Stand p l e R s m args below meth c T locs cells slots) (hx : p.tables.exec = Jvm.exec) (hZ : Z.Warmed39 s.vm) {n : Int32} {cap : Nat} (eT : T.heap = h) (w : (Jvm.Cond.arrayClass .byte).before a0 Z = true) (hn : ¬ n < 0) (hcap : n.toNatClampNeg ≤ cap) (hb : cap * 8 ≤ 536870912) (hc : cells + 1 ≤ R.cells) (hl : slots + cap ≤ R.slots) (hd : decode c.code pc = .ok (.newarray .byte, 2)) (hp : pc + 2 = pc')
    (kk : ∀ (T' : State) (h' : Heap) (b : Addr), Stand p l e R s m args below meth c T' locs (cells + 1) (slots + cap) → T'.heap = h' → Ext h h' → b = h.size → AI Z h' b .byte (List.replicate n.toNatClampNeg 0) → Go p e below s cm sm Q T' (mkF m pc' Ls (.ref b :: St))) : Go p e below s cm sm Q T (mkF m pc Ls (.int n :: St)) := by
  subst hp
  obtain ⟨T1, h1, k1, X1, e1, E1, A1, st⟩ := newP X hx hZ (aty := .byte) w eT (g := mkF m pc Ls (.int n :: St)) rfl hd rfl hn (cap := cap) hcap hb hc hl
  exact Go.st st (kk _ _ _ X1 e1 E1 rfl (AI.new A1 rfl))
theorem w_newJ (X : Stand p l e R s m args below meth c T locs cells slots) (hx : p.tables.exec = Jvm.exec) (hZ : Z.Warmed39 s.vm) {n : Int32} {cap : Nat} (eT : T.heap = h) (w : (Jvm.Cond.arrayClass .long).before a0 Z = true) (hn : ¬ n < 0) (hcap : n.toNatClampNeg ≤ cap) (hb : cap * 8 ≤ 536870912) (hc : cells + 1 ≤ R.cells) (hl : slots + cap ≤ R.slots) (hd : decode c.code pc = .ok (.newarray .long, 2)) (hp : pc + 2 = pc')
    (kk : ∀ (T' : State) (h' : Heap) (b : Addr), Stand p l e R s m args below meth c T' locs (cells + 1) (slots + cap) → T'.heap = h' → Ext h h' → b = h.size → AJ Z h' b (List.replicate n.toNatClampNeg 0) → Go p e below s cm sm Q T' (mkF m pc' Ls (.ref b :: St))) : Go p e below s cm sm Q T (mkF m pc Ls (.int n :: St)) := by
  subst hp
  obtain ⟨T1, h1, k1, X1, e1, E1, A1, st⟩ := newP X hx hZ (aty := .long) w eT (g := mkF m pc Ls (.int n :: St)) rfl hd rfl hn (cap := cap) hcap hb hc hl
  exact Go.st st (kk _ _ _ X1 e1 E1 rfl (AJ.new A1))
theorem w_callP (X : Stand p l e R s m args below meth c T locs cells slots) (hx : p.tables.exec = Jvm.exec) (hZ : Z.Warmed39 s.vm) {own : String} {index : Nat} {y : MethodName} {bytes : ByteArray} {maxL : Nat} {ret : Option FieldType} {rm : Room} {W : Nat} {argsL rest : List Value} {Qc : Option Value → Heap → List Loc → Prop} {a : Addr} (hown : s.vm.findClass own = some m.cls) (eT : T.heap = h) (E : Exa Z h a y.cls) (C : Con l Z y bytes maxL ret rm (.ref a :: argsL).toArray h Qc) (w1 : (Jvm.Cond.methodLink own index y).before a0 Z = true) (w2 : (Jvm.Cond.instanceMethod y).before a0 Z = true) (ws : (Jvm.Cond.selects y.cls y y).before a0 Z = true) (wp : (Jvm.Cond.privateMethod y).before a0 Z = true) (w3 : (Jvm.Cond.initialized y.cls).before a0 Z = true) (w4 : (Jvm.Cond.code y bytes maxL ret).before a0 Z = true) (hy : y.cls ≠ "java/lang/invoke/MethodHandle" ∧ y.cls ≠ "java/lang/invoke/VarHandle")
    (hf : rm.frames + 1 ≤ R.frames) (hl : W + (maxL + 11) + rm.locals ≤ R.locals) (hc : cells + rm.cells ≤ R.cells) (hs : slots + rm.slots ≤ R.slots) (hsz : Ls.size = c.maxLocals) (hlen : ∀ sig, parseMethodDescriptor y.desc = some sig → argsL.length = sig.parameters.length) (hW : (rest.map fun v => v.category).sum ≤ W) (hst : St = argsL.reverse ++ .ref a :: rest) (hd : decode c.code pc = .ok (.invokevirtual index, 3)) (hp : pc + 3 = pc')
    (kk : ∀ (T' : State) (L : List Loc) (v : Option Value), Stand p l e R s m args below meth c T' (locs ++ L) (cells + rm.cells) (slots + rm.slots) → Qc v T'.heap L → Go p e below s cm sm Q T' (mkF m pc' Ls (v.toList ++ rest))) : Go p e below s cm sm Q T (mkF m pc Ls St) := by
  subst hp hst
  obtain ⟨cq, q1, q2⟩ := E.cell
  obtain ⟨v, _, ⟨T1, L1, k1, n1⟩, -, X1, ⟨Lc, hQ, l1, y1, z1⟩, st⟩ := X.privateBack hx (y := y) hown (mvT hZ w1) (mvT hZ w2) (mvT hZ ws) (Cond.privateMethod_at (mvP hZ wp (args := #[]))) (mvT hZ w4) hy (C.back (W := W) hZ w4 w3 hf hl) (g := mkF m pc Ls (argsL.reverse ++ .ref a :: rest)) rfl hsz (Steps.refl _) (a := a) (by rw [eT]; exact q1) q2 (argsL := argsL) (rest := rest) hlen rfl (by show 2 * 0 + _ ≤ _; rw [Nat.mul_zero, Nat.zero_add]; exact hW) hd (fun _ _ => ⟨rfl, eT, hc, hs⟩)
  dsimp only [Pt.U, Pt.locs, Pt.cells, Pt.slots] at X1 l1 y1 z1 st hQ
  subst l1 y1 z1
  exact Go.st (fun t q => st.trans q) (kk _ _ _ X1 hQ)
theorem w_ifnullNo (X : Stand p l e R s m args below meth c T locs cells slots) (hx : p.tables.exec = Jvm.exec) {o : Int} {b : Addr} (hd : decode c.code pc = .ok (.ifnull o, 3)) (hp : pc + 3 = pc') (kk : Go p e below s cm sm Q T (mkF m pc' Ls St)) : Go p e below s cm sm Q T (mkF m pc Ls (.ref b :: St)) := by
  subst hp
  exact Go.st (fun t q => XS.ifnullNo (g := mkF m pc Ls (.ref b :: St)) X.here hx rfl hd rfl q) kk
theorem own_len {n k : Nat} (h : n < 2147483648) (hk : k < 2147483648) (hc : ¬ n.toInt32 < k.toInt32) : k ≤ n := by
  rw [Int32.lt_iff_toInt_lt, len_toInt h, len_toInt hk] at hc
  omega
theorem own_len' {n k : Nat} (h : n < 2147483648) (hk : k < 2147483648) (hc : n.toInt32 < k.toInt32) : n < k := by
  rw [Int32.lt_iff_toInt_lt, len_toInt h, len_toInt hk] at hc
  omega
theorem own_getD {α : Type} {vs : List α} {j : Nat} {d : α} (h : j < vs.length) : vs[j]? = some (vs.getD j d) := by simp [h]
theorem own_nar0 : nar .boolean 0 = 0 := by decide
theorem own_nar1 : nar .boolean 1 = 1 := by decide
theorem own_selp {y : MethodName} {s : State} {args : Array Value} {n : Nat} (hins : (Jvm.Cond.instantiable y.cls n).before args s = true) (hpriv : (Jvm.Cond.privateMethod y).before args s = true) (hinst : (Jvm.Cond.instanceMethod y).before args s = true) (hy : y.cls ≠ "java/lang/invoke/MethodHandle" ∧ y.cls ≠ "java/lang/invoke/VarHandle") :
    (Jvm.Cond.selects y.cls y y).before args s = true := by
  obtain ⟨c, k, hc, hk, -, hniab, -, -⟩ := Cond.instantiable_spec hins
  have hni : k.isInterface = false := (Bool.or_eq_false_iff.mp hniab).1
  obtain ⟨mk, methM, hnamed, hmethM, -, -⟩ := Cond.instanceMethod_spec hinst
  have hfound : s.methodFound? y.cls y.name y.desc = some mk := State.methodFound?_of_named hnamed hy
  have hcls : mk.cls = c := Option.some.inj ((findClass_of_methodNamed hnamed).symm.trans hc)
  have hsel : selectMethod {} s.vm c mk = .method mk := selectMethod_private hmethM (Cond.privateMethod_at hpriv mk methM hnamed hmethM)
  simp only [Jvm.Cond.before, Jvm.Cond.holds, Jvm.Cond.value, hc, hfound, hnamed, hsel, hcls, hk]
  simp; exact hni
end OwnKit
theorem pd_0 : parseMethodDescriptor "(II)I" = some ⟨[.int, .int], some .int⟩ := by decide +kernel
theorem pd_1 : parseMethodDescriptor "([JI)[J" = some ⟨[(.array .long), .int], some (.array .long)⟩ := by decide +kernel
theorem pd_2 : parseMethodDescriptor "(JI)V" = some ⟨[.long, .int], none⟩ := by decide +kernel
theorem pd_3 : parseMethodDescriptor "([JII)V" = some ⟨[(.array .long), .int, .int], none⟩ := by decide +kernel
theorem pd_4 : parseMethodDescriptor "(I)V" = some ⟨[.int], none⟩ := by decide +kernel
theorem pd_5 : parseMethodDescriptor "(Lcom/example/facet/facet/regex/MinQueue;J)V" = some ⟨[(.object "com/example/facet/facet/regex/MinQueue"), .long], none⟩ := by decide +kernel
theorem pd_6 : parseMethodDescriptor "()J" = some ⟨[], some .long⟩ := by decide +kernel
theorem own_m (x m : Int32) {k : Nat} (hk : k < 32) (hm : m.toBitVec.toNat = 2 ^ k - 1) : 0 ≤ (x &&& m).toInt ∧ (x &&& m).toInt < 2 ^ k := by
  rw [Jvm.Kit.i32_mask x m hk hm]
  exact ⟨Int.emod_nonneg _ (by have : (0 : Int) < 2 ^ k := Int.pow_pos (by decide); omega), Int.emod_lt_of_pos _ (Int.pow_pos (by decide))⟩
theorem own_one : (1 : Int32).toInt = 1 := by decide
theorem own_zero : (0 : Int32).toInt = 0 := by decide
theorem own_toInt {x y : Int32} (h : x.toInt = y.toInt) : x = y := Int32.toInt_inj.mp h
theorem own_and1 (x : Int32) : x &&& 1 = 0 ∨ x &&& 1 = 1 := and_one x
theorem own_and3 (x : Int32) : x &&& 3 = 0 ∨ x &&& 3 = 1 ∨ x &&& 3 = 2 ∨ x &&& 3 = 3 := by
  obtain ⟨h1, h2⟩ := own_m x 3 (k := 2) (by decide) (by decide)
  have e1 : (1 : Int32).toInt = 1 := by decide
  have e2 : (2 : Int32).toInt = 2 := by decide
  have e3 : (3 : Int32).toInt = 3 := by decide
  have e0 : (0 : Int32).toInt = 0 := by decide
  have : (x &&& 3).toInt = 0 ∨ (x &&& 3).toInt = 1 ∨ (x &&& 3).toInt = 2 ∨ (x &&& 3).toInt = 3 := by omega
  rcases this with h | h | h | h
  · exact Or.inl (own_toInt (h.trans e0.symm))
  · exact Or.inr (Or.inl (own_toInt (h.trans e1.symm)))
  · exact Or.inr (Or.inr (Or.inl (own_toInt (h.trans e2.symm))))
  · exact Or.inr (Or.inr (Or.inr (own_toInt (h.trans e3.symm))))
theorem own_b01 {c : Prop} [Decidable c] {v : Int32} (h : v = if c then 0 else 1) : v = 0 ∨ v = 1 := by subst h; split <;> simp
theorem own_b10 {c : Prop} [Decidable c] {v : Int32} (h : v = if c then 1 else 0) : v = 0 ∨ v = 1 := by subst h; split <;> simp
theorem own_i {n : Nat} (h : n < 2147483648) : (n.toInt32).toInt = n := len_toInt h
theorem own_nat {n : Nat} (h : n < 2147483648) : n.toInt32.toNatClampNeg = n := by
  show n.toInt32.toInt.toNat = n
  rw [own_i h]; rfl
theorem own_nneg {n : Nat} (h : n < 2147483648) : ¬ n.toInt32 < 0 := by
  rw [Int32.lt_iff_toInt_lt, own_i h, own_zero]; omega
theorem own_ilt {a b : Nat} (ha : a < 2147483648) (hb : b < 2147483648) : (a.toInt32 < b.toInt32) ↔ a < b := by
  rw [Int32.lt_iff_toInt_lt, own_i ha, own_i hb]; omega
theorem own_ieq {a b : Nat} (ha : a < 2147483648) (hb : b < 2147483648) : (a.toInt32 = b.toInt32) ↔ a = b := by
  rw [← Int32.toInt_inj, own_i ha, own_i hb]; omega
theorem own_iinc {n : Nat} (h : n + 1 < 2147483648) : n.toInt32 + 1 = (n + 1).toInt32 := by
  apply own_toInt
  rw [Jvm.Kit.i32_add (by rw [own_i (by omega), own_one]; omega) (by rw [own_i (by omega), own_one]; omega), own_i (by omega), own_i h, own_one]
  omega
theorem own_idec {n : Nat} (h : n + 1 < 2147483648) : (n + 1).toInt32 - 1 = n.toInt32 := by
  apply own_toInt
  rw [Jvm.Kit.i32_sub (by rw [own_i h, own_one]; omega) (by rw [own_i h, own_one]; omega), own_i h, own_i (by omega), own_one]
  omega
theorem own_dist (y : Int32) : (y &&& 0x3f).toInt64.toUInt64.toNat = (y.toInt % 64).toNat := by
  have h1 : (y &&& 63).toInt = y.toInt % 2 ^ 6 := Jvm.Kit.i32_mask y 63 (k := 6) (by decide) (by decide)
  have h2 : (y &&& 63).toInt64.toInt = (y &&& 63).toInt := Int32.toInt_toInt64 _
  have h3 : ((y &&& 63).toInt64.toUInt64.toNat : Int) = (y &&& 63).toInt64.toInt := by
    have h4 : (y &&& 63).toInt64.toInt = (y &&& 63).toInt64.toBitVec.toInt := rfl
    have h5 : (y &&& 63).toInt64.toUInt64.toNat = (y &&& 63).toInt64.toBitVec.toNat := rfl
    have h6 : 0 ≤ (y &&& 63).toInt64.toBitVec.toInt := by rw [← h4, h2, h1]; omega
    rw [h4, h5, BitVec.toInt_eq_toNat_cond] at *
    have := (y &&& 63).toInt64.toBitVec.isLt
    split at h6 <;> split <;> omega
  rw [show (0x3f : Int32) = 63 from rfl]
  omega
theorem own_lushr_bv (x : Int64) (y : Int32) : (jlushr x y).toBitVec = x.toBitVec >>> (y.toInt % 64).toNat := by
  show (x.toUInt64 >>> (y &&& 0x3f).toInt64.toUInt64).toBitVec = _
  rw [UInt64.toBitVec_shiftRight]
  have := own_dist y
  rw [BitVec.ushiftRight_eq']
  have e : ((y &&& 0x3f).toInt64.toUInt64.toBitVec % 64).toNat = (y.toInt % 64).toNat := by
    rw [BitVec.toNat_umod]
    show (y &&& 0x3f).toInt64.toUInt64.toNat % 64 = _
    rw [this]; omega
  rw [e]
  rfl
theorem own_lushr_nat (x : Int64) (y : Int32) : (jlushr x y).toBitVec.toNat = x.toBitVec.toNat / 2 ^ (y.toInt % 64).toNat := by
  rw [own_lushr_bv, BitVec.toNat_ushiftRight, Nat.shiftRight_eq_div_pow]
theorem own_bit (m : Int64) (p : Int32) (h0 : 0 ≤ p.toInt) (h : p.toInt < 64) : ((jlushr m p &&& 1) = 0) ↔ m.toBitVec.getLsbD p.toInt.toNat = false := by
  rw [← Int64.toBitVec_inj, Int64.toBitVec_and, own_lushr_bv]
  have e : (p.toInt % 64).toNat = p.toInt.toNat := by omega
  rw [e]
  have e1 : (1 : Int64).toBitVec = 1#64 := rfl
  have e0 : (0 : Int64).toBitVec = 0#64 := rfl
  rw [e1, e0, ← BitVec.toNat_inj, BitVec.toNat_and, BitVec.toNat_ushiftRight]
  rw [show (1#64).toNat = 1 from rfl, show (0#64).toNat = 0 from rfl, Nat.and_one_is_mod]
  rw [BitVec.getLsbD, Nat.testBit]
  rw [Nat.and_comm, Nat.and_one_is_mod]
  simp
theorem own_smod (d : Int32) : ((d &&& 0x3f).toInt64.toBitVec.smod 64).toNat = (d.toInt % 64).toNat := by
  have h1 := own_dist d
  have h2 : (d &&& 0x3f).toInt64.toBitVec.toNat = (d.toInt % 64).toNat := h1
  have h3 : (d &&& 0x3f).toInt64.toBitVec = BitVec.ofNat 64 (d.toInt % 64).toNat := by
    apply BitVec.eq_of_toNat_eq
    rw [h2, BitVec.toNat_ofNat]; omega
  rw [h3]
  have h4 : (d.toInt % 64).toNat < 64 := by omega
  generalize (d.toInt % 64).toNat = n at *
  have : ∀ n, n < 64 → ((BitVec.ofNat 64 n).smod 64).toNat = n := by decide
  exact this n h4
theorem own_shl_bv (x : Int64) (d : Int32) : (x <<< (d &&& 0x3f).toInt64).toBitVec = x.toBitVec <<< (d.toInt % 64).toNat := by
  rw [Int64.toBitVec_shiftLeft, BitVec.shiftLeft_eq', own_smod]
theorem own_bit1 (d p : Int32) (h0 : 0 ≤ p.toInt) (h : p.toInt < 64) : ((1 : Int64) <<< (d &&& 0x3f).toInt64).toBitVec.getLsbD p.toInt.toNat = decide ((d &&& 63) = p) := by
  rw [own_shl_bv, show (1 : Int64).toBitVec = 1#64 from rfl, BitVec.getLsbD_shiftLeft]
  have h1 : (d &&& 63).toInt = d.toInt % 2 ^ 6 := Jvm.Kit.i32_mask d 63 (k := 6) (by decide) (by decide)
  rw [BitVec.getLsbD_one, Bool.eq_iff_iff]
  simp only [Bool.and_eq_true, Bool.not_eq_true', decide_eq_true_eq, decide_eq_false_iff_not]
  rw [← Int32.toInt_inj, h1]
  omega
theorem own_or_bit (a b : Int64) (n : Nat) : (a ||| b).toBitVec.getLsbD n = (a.toBitVec.getLsbD n || b.toBitVec.getLsbD n) := by
  rw [Int64.toBitVec_or, BitVec.getLsbD_or]
theorem own_field (x : Int64) : (x &&& 63).toInt32 = x.toInt32 &&& 63 := by
  rw [Int64.toInt32_and]; rfl
theorem own_u0 (x : Int64) : jlushr x 0 = x := by
  apply Int64.toBitVec_inj.mp
  rw [own_lushr_bv]; simp
theorem own_typedJ {c : Cell} {vs : List Int64} (q : c.slots.toList = vs.map Value.long) : XT.Typed .long c := fun i v hv => by
  rw [← Array.getElem?_toList, q, List.getElem?_map] at hv
  cases hx : vs[i]? with
  | none => rw [hx] at hv; cases hv
  | some x => rw [hx] at hv; cases hv; rfl
section CopyJ
variable {p : Program} {l : Launch} {e : Env} {R : Room} {s : State} {m : MethodId} {args : Array Value} {below : List Frame} {meth : Method} {c : Code} {T T' : State} {locs : List Loc} {cells slots : Nat} {Z : State} {a0 : Array Value} {h h' : Heap} {cm sm : Nat} {Q : Option Value → Heap → List Loc → Prop} {pc pc' : Nat} {Ls Ls' : Array Slot} {St : List Value}
theorem own_fcp {k : Nat} {b : Addr} {n : Nat} (q : k ≤ b) : Fr k (copyLocs b 0 n) := fun y hy => by
  obtain ⟨i, -, rfl⟩ := List.mem_map.mp hy; exact q
theorem w_acopyJ (X : Stand p l e R s m args below meth c T locs cells slots) (hx : p.tables.exec = Jvm.exec) (hZ : Z.Warmed39 s.vm) {own : String} {index W : Nat} {rest : List Value} {a b : Addr} {vs bs : List Int64} {n : Nat} {jn : Int32} (hown : s.vm.findClass own = some m.cls) (eT : T.heap = h) (FA : AJ Z h a vs) (FB : AJ Z h b bs) (hn : jn = Int32.ofNat n) (h4 : n ≤ vs.length) (h5 : n ≤ bs.length) (w1 : (Jvm.Cond.methodLink own index (⟨"java/lang/System", "arraycopy", "(Ljava/lang/Object;ILjava/lang/Object;II)V"⟩ : MethodName)).before a0 Z = true) (w2 : (Jvm.Cond.native (⟨"java/lang/System", "arraycopy", "(Ljava/lang/Object;ILjava/lang/Object;II)V"⟩ : MethodName)).before a0 Z = true) (w3 : (Jvm.Cond.static (⟨"java/lang/System", "arraycopy", "(Ljava/lang/Object;ILjava/lang/Object;II)V"⟩ : MethodName)).before a0 Z = true) (w4 : (Jvm.Cond.initialized "java/lang/System").before a0 Z = true)
    (hf : 1 ≤ R.frames) (hl : W + 40 ≤ R.locals) (hsz : Ls.size = c.maxLocals) (hW : (rest.map fun v => v.category).sum ≤ W) (hd : decode c.code pc = .ok (.invokestatic index, 3)) (hp : pc + 3 = pc')
    (kk : ∀ (T' : State) (h' : Heap), Stand p l e R s m args below meth c T' (locs ++ copyLocs b 0 n) cells slots → T'.heap = h' → Keep h h' [b] → AJ Z h' b (vs.take n ++ bs.drop n) → Go p e below s cm sm Q T' (mkF m pc' Ls rest)) : Go p e below s cm sm Q T (mkF m pc Ls (.int jn :: .int 0 :: .ref b :: .int 0 :: .ref a :: rest)) := by
  subst hp
  obtain ⟨ca, A, qa, ra⟩ := FA
  obtain ⟨cb, B, qb, rb⟩ := FB
  have hZT : Z.Warmed39 T.vm := State.Warmed39.trans hZ X.warmed.wide
  have sa := AJ.sz qa
  have sb := AJ.sz qb
  have hA : XT.Arr .long a ca T := ⟨by rw [eT]; exact A.1, State.isArrayOf_alike hZT.alike A.2.1, A.2.2, by rw [sa]; exact ra⟩
  have hB : XT.Arr .long b cb T := ⟨by rw [eT]; exact B.1, State.isArrayOf_alike hZT.alike B.2.1, B.2.2, by rw [sb]; exact rb⟩
  obtain ⟨T1, B1, X1, P1, c1, v1, z1, g1, st⟩ := X.acopy hx hown (index := index) (by
    intro d hd0
    simp only [XT.acW, List.mem_cons, List.not_mem_nil, or_false] at hd0
    rcases hd0 with rfl | rfl | rfl | rfl
    · exact mvT hZ w1
    · exact mvT hZ w2
    · exact mvT hZ w3
    · exact mvT hZ w4) hA hB rfl (o := 0) (q := 0) (n := n) (jo := 0) (jq := 0) rfl rfl hn (by omega) (by omega) ((own_typedJ qa).goes rfl (by omega)) (g := mkF m pc Ls (.int jn :: .int 0 :: .ref b :: .int 0 :: .ref a :: rest)) rfl hsz (rest := rest) rfl hd (W := W) (by show 2 * 0 + _ ≤ _; rw [Nat.mul_zero, Nat.zero_add]; exact hW) hf hl
  have hZ1 : Z.Warmed39 T1.vm := State.Warmed39.trans hZ X1.warmed.wide
  have hB1 : XT.Arr .long b B1 T1 := hB.like (X.warmed.alike.symm.trans X1.warmed.alike) P1.1 c1 v1 z1
  subst eT
  refine Go.st st (kk T1 T1.heap X1 rfl ⟨Nat.le_of_eq P1.2.2.symm, fun x cx hx0 r => P1.other (fun q => r (by rw [q]; simp)) hx0, fun x cx hx0 => ?_⟩ ⟨B1, ⟨P1.1, State.isArrayOf_alike hZ1.alike.symm hB1.2.1, hB1.2.2.1⟩, ?_, ?_⟩)
  · by_cases q : x = b
    · subst q
      have e1 : some cx = some cb := hx0.symm.trans hB.1
      cases e1
      exact ⟨B1, P1.1, c1, v1, z1⟩
    · exact ⟨cx, P1.other q hx0, rfl, rfl, rfl⟩
  · apply List.ext_getElem?
    intro j
    rw [Array.getElem?_toList, g1 j, List.getElem?_map, List.getElem?_append, List.length_take, Nat.min_eq_left h4]
    by_cases q : j < n
    · rw [if_pos ⟨Nat.zero_le _, by omega⟩, if_pos q, List.getElem?_take, if_pos q]
      have e1 : ca.slots[j]? = some (.long vs[j]) := AJ.at qa (List.getElem?_eq_getElem (by omega))
      rw [Array.getD_eq_getD_getElem?, show 0 + (j - 0) = j from by omega, e1, List.getElem?_eq_getElem (by omega)]
      rfl
    · rw [if_neg (by omega), if_neg q, List.getElem?_drop, show n + (j - n) = j from by omega, ← Array.getElem?_toList, qb, List.getElem?_map]
  · rw [List.length_append, List.length_take, List.length_drop]; omega
end CopyJ
theorem d4_0 : decode jdk_29_method_65_code 0 = .ok (.iload_n 0, 1) := by decide +kernel
theorem d4_1 : decode jdk_29_method_65_code 1 = .ok (.iload_n 1, 1) := by decide +kernel
theorem d4_2 : decode jdk_29_method_65_code 2 = .ok (.if_icmp .lt 7, 3) := by decide +kernel
theorem d4_5 : decode jdk_29_method_65_code 5 = .ok (.iload_n 0, 1) := by decide +kernel
theorem d4_6 : decode jdk_29_method_65_code 6 = .ok (.goto 4, 3) := by decide +kernel
theorem d4_9 : decode jdk_29_method_65_code 9 = .ok (.iload_n 1, 1) := by decide +kernel
theorem d4_10 : decode jdk_29_method_65_code 10 = .ok (.ireturn, 1) := by decide +kernel
def K4_0 (x0 : Int32) (x1 : Int32) : Int32 :=
  (if x0 < x1 then x1
  else x0)
set_option maxRecDepth 65536 in
set_option maxHeartbeats 4000000 in
theorem bk4_0 {p : Program} {l : Launch} {e : Env} {s : State} {m : MethodId} {args : Array Value} {below : List Frame} {meth : Method} {c : Code} {T : State} {locs : List Loc} {Z : State} {a0 : Array Value} {h0 : Heap} {n0 : Nat} (X : Stand p l e ({ frames := 0, cells := 0, slots := 0, locals := 0 } : Room) s m args below meth c T locs 0 0) (hx : p.tables.exec = Jvm.exec) (hZ : Z.Warmed39 s.vm) (hw : ∀ d ∈ tables_1, d.before a0 Z = true) (hby : c.code = jdk_29_method_65_code) (hml : c.maxLocals = 2) (hown : s.vm.findClass "java/lang/Math" = some m.cls) (hret : meth.sig.returnType = (some .int)) (hlk : meth.locks = false) (e0 : T.heap = h0) (N0 : Fr n0 locs) (x0 : Int32) (x1 : Int32) :
    Go p e below s 0 0 (QP (some (.int (K4_0 x0 x1))) h0 n0) T (mkF m 0 #[.val (.int x0), .val (.int x1)] []) := by
  rw [K4_0]
  refine w_iloadN X hx (hb hby d4_0) (pc' := 1) rfl rfl ?_
  refine w_iloadN X hx (hb hby d4_1) (pc' := 2) rfl rfl ?_
  refine w_icmp_lt X hx (hb hby d4_2) (pf := 5) (pt := 9) rfl (by decide) (by decide) (fun hc2 => ?_) (fun hc2 => ?_)
  · rw [if_pos hc2]
    refine w_iloadN X hx (hb hby d4_9) (pc' := 10) rfl rfl ?_
    exact w_retI X hx hret hlk (hb hby d4_10) (by decide) (by decide) ⟨rfl, N0, e0⟩
  · rw [if_neg hc2]
    refine w_iloadN X hx (hb hby d4_5) (pc' := 6) rfl rfl ?_
    refine w_goto X hx (hb hby d4_6) (pc' := 10) (by decide) (by decide) ?_
    exact w_retI X hx hret hlk (hb hby d4_10) (by decide) (by decide) ⟨rfl, N0, e0⟩
theorem ef_4 (m : MethodId) (x0 : Int32) (x1 : Int32) : entryFrame m #[(.int x0), (.int x1)] 2 = mkF m 0 #[.val (.int x0), .val (.int x1)] [] := by first | (simp [entryFrame, mkF, argsToLocals, Value.category]; done) | rfl
theorem rm4 (l : Launch) (Z : State) (a0 : Array Value) (hw : ∀ d ∈ tables_1, d.before a0 Z = true) (x0 : Int32) (x1 : Int32) (h0 : Heap) (n0 : Nat) :
    Con l Z (⟨"java/lang/Math", "max", "(II)I"⟩ : MethodName) jdk_29_method_65_code 2 (some .int) ({ frames := 0, cells := 0, slots := 0, locals := 0 } : Room) #[(.int x0), (.int x1)] h0 (QP (some (.int (K4_0 x0 x1))) h0 n0) := by
  refine Con.of (Jvm.Free.JP.mathPlain rfl (by decide +kernel)) ?_
  intro p e s m below meth c T X hx hZ hby hml hown hnm hret hlk e0
  rw [ef_4]
  exact bk4_0 X hx hZ hw hby hml hown hret hlk e0 (Fr.nil n0) x0 x1
theorem d8_0 : decode jdk_29_method_69_code 0 = .ok (.iload_n 0, 1) := by decide +kernel
theorem d8_1 : decode jdk_29_method_69_code 1 = .ok (.iload_n 1, 1) := by decide +kernel
theorem d8_2 : decode jdk_29_method_69_code 2 = .ok (.if_icmp .gt 7, 3) := by decide +kernel
theorem d8_5 : decode jdk_29_method_69_code 5 = .ok (.iload_n 0, 1) := by decide +kernel
theorem d8_6 : decode jdk_29_method_69_code 6 = .ok (.goto 4, 3) := by decide +kernel
theorem d8_9 : decode jdk_29_method_69_code 9 = .ok (.iload_n 1, 1) := by decide +kernel
theorem d8_10 : decode jdk_29_method_69_code 10 = .ok (.ireturn, 1) := by decide +kernel
def K8_0 (x0 : Int32) (x1 : Int32) : Int32 :=
  (if x1 < x0 then x1
  else x0)
set_option maxRecDepth 65536 in
set_option maxHeartbeats 4000000 in
theorem bk8_0 {p : Program} {l : Launch} {e : Env} {s : State} {m : MethodId} {args : Array Value} {below : List Frame} {meth : Method} {c : Code} {T : State} {locs : List Loc} {Z : State} {a0 : Array Value} {h0 : Heap} {n0 : Nat} (X : Stand p l e ({ frames := 0, cells := 0, slots := 0, locals := 0 } : Room) s m args below meth c T locs 0 0) (hx : p.tables.exec = Jvm.exec) (hZ : Z.Warmed39 s.vm) (hw : ∀ d ∈ tables_1, d.before a0 Z = true) (hby : c.code = jdk_29_method_69_code) (hml : c.maxLocals = 2) (hown : s.vm.findClass "java/lang/Math" = some m.cls) (hret : meth.sig.returnType = (some .int)) (hlk : meth.locks = false) (e0 : T.heap = h0) (N0 : Fr n0 locs) (x0 : Int32) (x1 : Int32) :
    Go p e below s 0 0 (QP (some (.int (K8_0 x0 x1))) h0 n0) T (mkF m 0 #[.val (.int x0), .val (.int x1)] []) := by
  rw [K8_0]
  refine w_iloadN X hx (hb hby d8_0) (pc' := 1) rfl rfl ?_
  refine w_iloadN X hx (hb hby d8_1) (pc' := 2) rfl rfl ?_
  refine w_icmp_gt X hx (hb hby d8_2) (pf := 5) (pt := 9) rfl (by decide) (by decide) (fun hc2 => ?_) (fun hc2 => ?_)
  · rw [if_pos hc2]
    refine w_iloadN X hx (hb hby d8_9) (pc' := 10) rfl rfl ?_
    exact w_retI X hx hret hlk (hb hby d8_10) (by decide) (by decide) ⟨rfl, N0, e0⟩
  · rw [if_neg hc2]
    refine w_iloadN X hx (hb hby d8_5) (pc' := 6) rfl rfl ?_
    refine w_goto X hx (hb hby d8_6) (pc' := 10) (by decide) (by decide) ?_
    exact w_retI X hx hret hlk (hb hby d8_10) (by decide) (by decide) ⟨rfl, N0, e0⟩
theorem ef_8 (m : MethodId) (x0 : Int32) (x1 : Int32) : entryFrame m #[(.int x0), (.int x1)] 2 = mkF m 0 #[.val (.int x0), .val (.int x1)] [] := by first | (simp [entryFrame, mkF, argsToLocals, Value.category]; done) | rfl
theorem rm8 (l : Launch) (Z : State) (a0 : Array Value) (hw : ∀ d ∈ tables_1, d.before a0 Z = true) (x0 : Int32) (x1 : Int32) (h0 : Heap) (n0 : Nat) :
    Con l Z (⟨"java/lang/Math", "min", "(II)I"⟩ : MethodName) jdk_29_method_69_code 2 (some .int) ({ frames := 0, cells := 0, slots := 0, locals := 0 } : Room) #[(.int x0), (.int x1)] h0 (QP (some (.int (K8_0 x0 x1))) h0 n0) := by
  refine Con.of (Jvm.Free.JP.mathPlain rfl (by decide +kernel)) ?_
  intro p e s m below meth c T X hx hZ hby hml hown hnm hret hlk e0
  rw [ef_8]
  exact bk8_0 X hx hZ hw hby hml hown hret hlk e0 (Fr.nil n0) x0 x1
theorem own_mn {n : Nat} {x : Int32} (hn : n ≤ 4) (hx : x = Int32.ofNat (2 * n)) : K8_0 n.toInt32 x = Int32.ofNat n := by
  have h3 : x.toInt = ((2 * n : Nat) : Int) := by rw [hx]; exact own_i (by omega)
  rw [K8_0, if_neg (by rw [Int32.lt_iff_toInt_lt, h3, own_i (by omega)]; omega)]
theorem own_xn {n : Nat} {x : Int32} (h0 : 1 ≤ n) (hn : n ≤ 4) (hx : x = Int32.ofNat (2 * n)) : ¬ (x = n.toInt32) ∧ ¬ (x < 0) ∧ x.toNatClampNeg = 2 * n := by
  subst hx
  refine ⟨fun q => ?_, own_nneg (n := 2 * n) (by omega), own_nat (n := 2 * n) (by omega)⟩
  have := (own_ieq (a := 2 * n) (b := n) (by omega) (by omega)).1 q
  omega
theorem own_mc {x : Int32} (hx : 0 ≤ x.toInt ∧ x.toInt ≤ 7) : 1 ≤ (K4_0 x (1 : Int32)).toInt ∧ (K4_0 x (1 : Int32)).toInt ≤ 7 := by
  rw [K4_0]
  split
  · rw [own_one]; omega
  · rename_i h
    rw [Int32.lt_iff_toInt_lt, own_one] at h
    omega
theorem d7_0 : decode jdk_65_method_124_code 0 = .ok (.iload_n 1, 1) := by decide +kernel
theorem d7_1 : decode jdk_65_method_124_code 1 = .ok (.aload_n 0, 1) := by decide +kernel
theorem d7_2 : decode jdk_65_method_124_code 2 = .ok (.arraylength, 1) := by decide +kernel
theorem d7_3 : decode jdk_65_method_124_code 3 = .ok (.if_icmp .ne 11, 3) := by decide +kernel
theorem d7_14 : decode jdk_65_method_124_code 14 = .ok (.iload_n 1, 1) := by decide +kernel
theorem d7_15 : decode jdk_65_method_124_code 15 = .ok (.newarray .long, 2) := by decide +kernel
theorem d7_17 : decode jdk_65_method_124_code 17 = .ok (.astore_n 2, 1) := by decide +kernel
theorem d7_18 : decode jdk_65_method_124_code 18 = .ok (.aload_n 0, 1) := by decide +kernel
theorem d7_19 : decode jdk_65_method_124_code 19 = .ok (.iconst 0, 1) := by decide +kernel
theorem d7_20 : decode jdk_65_method_124_code 20 = .ok (.aload_n 2, 1) := by decide +kernel
theorem d7_21 : decode jdk_65_method_124_code 21 = .ok (.iconst 0, 1) := by decide +kernel
theorem d7_22 : decode jdk_65_method_124_code 22 = .ok (.aload_n 0, 1) := by decide +kernel
theorem d7_23 : decode jdk_65_method_124_code 23 = .ok (.arraylength, 1) := by decide +kernel
theorem d7_24 : decode jdk_65_method_124_code 24 = .ok (.iload_n 1, 1) := by decide +kernel
theorem d7_25 : decode jdk_65_method_124_code 25 = .ok (.invokestatic 304, 3) := by decide +kernel
theorem d7_28 : decode jdk_65_method_124_code 28 = .ok (.invokestatic 150, 3) := by decide +kernel
theorem d7_31 : decode jdk_65_method_124_code 31 = .ok (.aload_n 2, 1) := by decide +kernel
theorem d7_32 : decode jdk_65_method_124_code 32 = .ok (.areturn, 1) := by decide +kernel
theorem ef_7 (m : MethodId) (ar : Addr) (x1 : Int32) : entryFrame m #[(.ref ar), (.int x1)] 3 = mkF m 0 #[.val (.ref ar), .val (.int x1), .unset] [] := by first | (simp [entryFrame, mkF, argsToLocals, Value.category]; done) | rfl
set_option maxRecDepth 65536 in
set_option maxHeartbeats 40000000 in
theorem rm7 (l : Launch) (Z : State) (a0 : Array Value) (hw : ∀ d ∈ tables_1, d.before a0 Z = true) (ar : Addr) (x1 : Int32) (h0 : Heap) (n0 : Nat) (Z0 : n0 ≤ h0.size) (vs : List Int64) (V_ar : AJ Z h0 ar vs) (hl : 1 ≤ vs.length ∧ vs.length ≤ 4) (hx1 : x1 = Int32.ofNat (2 * vs.length)) :
    Con l Z (⟨"java/util/Arrays", "copyOf", "([JI)[J"⟩ : MethodName) jdk_65_method_124_code 3 (some (.array .long)) ({ frames := 1, cells := 1, slots := 8, locals := 48 } : Room) #[(.ref ar), (.int x1)] h0 (fun v h L => ∃ b : Addr, v = some (.ref b) ∧ Fr n0 L ∧ Keep h0 h [] ∧ h0.size ≤ b ∧ AJ Z h b (vs ++ List.replicate vs.length 0)) := by
  refine Con.of (plainFor_of_name (by first | (simp [plainName, overriddenIn]; done) | decide +kernel)) ?_
  intro p e s m below meth c T X hx hZ hby hml hown hnm hret hlk e0
  rw [ef_7]
  have N0 := Fr.nil n0
  have KP0 := Keep.refl h0 []
  show Go p e below s 1 8 (fun v h L => ∃ b : Addr, v = some (.ref b) ∧ Fr n0 L ∧ Keep h0 h [] ∧ h0.size ≤ b ∧ AJ Z h b (vs ++ List.replicate vs.length 0)) T (mkF m 0 #[.val (.ref ar), .val (.int x1), .unset] [])
  refine w_iloadN X hx (hb hby d7_0) (pc' := 1) rfl rfl ?_
  refine w_aloadN X hx (hb hby d7_1) (pc' := 2) rfl rfl rfl ?_
  refine w_alenJ X hx hZ e0 V_ar (n := (vs.length.toInt32)) rfl (hb hby d7_2) (pc' := 3) rfl ?_
  have hf3 : ¬ (x1 = (vs.length.toInt32)) := (own_xn hl.1 hl.2 hx1).1
  refine w_icmp_ne X hx (hb hby d7_3) (pf := 6) (pt := 14) rfl (by decide) (by decide) (fun hc3 => ?_) (fun hc => absurd hc hf3)
  refine w_iloadN X hx (hb hby d7_14) (pc' := 15) rfl rfl ?_
  refine w_newJ X hx hZ (cap := 8) e0 (hw _ (List.mem_of_getElem? (i := 1) rfl)) (own_xn hl.1 hl.2 hx1).2.1 (by rw [(own_xn hl.1 hl.2 hx1).2.2]; omega) (by decide) (by decide) (by decide) (hb hby d7_15) (pc' := 17) rfl (fun T1 h1 b1 X1 e1 E1 q1 V1 => ?_)
  have g_b1 : n0 ≤ b1 := by rw [q1]; exact Z0
  have ne_ar_b1 : ar ≠ b1 := by rw [q1]; exact Nat.ne_of_lt V_ar.lt
  have sz_b1 : h0.size ≤ b1 := by rw [q1]; exact KP0.1
  have KP1 := KP0.ext E1
  have zn1 : n0 ≤ h1.size := Nat.le_trans Z0 E1.1
  refine w_astoreN (Ls' := #[.val (.ref ar), .val (.int x1), .val (.ref b1)]) X1 hx (hb hby d7_17) (pc' := 18) rfl rfl rfl ?_
  refine w_aloadN X1 hx (hb hby d7_18) (pc' := 19) rfl rfl rfl ?_
  refine w_iconst (v := 0) X1 hx (hb hby d7_19) (pc' := 20) rfl rfl ?_
  refine w_aloadN X1 hx (hb hby d7_20) (pc' := 21) rfl rfl rfl ?_
  refine w_iconst (v := 0) X1 hx (hb hby d7_21) (pc' := 22) rfl rfl ?_
  refine w_aloadN X1 hx (hb hby d7_22) (pc' := 23) rfl rfl rfl ?_
  have f2 := V_ar.ext E1
  refine w_alenJ X1 hx hZ e1 f2 (n := (vs.length.toInt32)) rfl (hb hby d7_23) (pc' := 24) rfl ?_
  refine w_iloadN X1 hx (hb hby d7_24) (pc' := 25) rfl rfl ?_
  refine w_callS (argsL := [(.int (vs.length.toInt32)), (.int x1)]) (rest := [(.int (0 : Int32)), (.ref b1), (.int (0 : Int32)), (.ref ar)]) X1 hx hZ hown e1 (rm8 l Z a0 hw (vs.length.toInt32) x1 h1 n0) (hw _ (List.mem_of_getElem? (i := 36) rfl)) (hw _ (List.mem_of_getElem? (i := 37) rfl)) (hw _ (List.mem_of_getElem? (i := 17) rfl)) (hw _ (List.mem_of_getElem? (i := 38) rfl)) (by decide) (by decide) (W := 4) (by decide) (by decide) (by decide) (by rw [hml]; rfl) (lenOf pd_0 rfl) (Nat.le_refl _) rfl (hb hby d7_25) (pc' := 28) rfl (fun T3 L3 v3 X3 hQ3 => ?_)
  obtain ⟨rfl, N3q, e3⟩ := hQ3
  have N3 := Fr.app N0 N3q
  have X3 : Stand p l e ({ frames := 1, cells := 1, slots := 8, locals := 48 } : Room) s m _ below meth c T3 _ 1 8 := X3
  show Go p e below s 1 8 (fun v h L => ∃ b : Addr, v = some (.ref b) ∧ Fr n0 L ∧ Keep h0 h [] ∧ h0.size ≤ b ∧ AJ Z h b (vs ++ List.replicate vs.length 0)) T3 (mkF m 28 #[.val (.ref ar), .val (.int x1), .val (.ref b1)] [(.int (K8_0 (vs.length.toInt32) x1)), (.int (0 : Int32)), (.ref b1), (.int (0 : Int32)), (.ref ar)])
  refine w_acopyJ X3 hx hZ (W := 0) (rest := []) (n := vs.length) hown e3 f2 V1 (own_mn hl.2 hx1) (Nat.le_refl _) (by rw [List.length_replicate, (own_xn hl.1 hl.2 hx1).2.2]; omega) (hw _ (List.mem_of_getElem? (i := 39) rfl)) (hw _ (List.mem_of_getElem? (i := 42) rfl)) (hw _ (List.mem_of_getElem? (i := 40) rfl)) (hw _ (List.mem_of_getElem? (i := 41) rfl)) (by decide) (by decide) (by rw [hml]; rfl) (Nat.le_refl _) (hb hby d7_28) (pc' := 31) rfl (fun T4 h4 X4 e4 K4 V4 => ?_)
  have zn4 : n0 ≤ h4.size := Nat.le_trans zn1 K4.1
  have KP4 := KP1.trans K4 (allS (Or.inr sz_b1) all0)
  have N4 := Fr.app N3 (own_fcp (n := vs.length) g_b1)
  refine w_aloadN X4 hx (hb hby d7_31) (pc' := 32) rfl rfl rfl ?_
  exact w_retA X4 hx hret rfl hlk (hb hby d7_32) (by decide) (by decide) (by rw [List.take_length, (own_xn hl.1 hl.2 hx1).2.2, List.drop_replicate, show 2 * vs.length - vs.length = vs.length from by omega] at V4; rw [e4]; exact ⟨b1, rfl, N4, KP4, sz_b1, V4⟩)
/-- u, v are x, y in order -/
def own_P (x y u v : Int64) : Prop := u.toInt ≤ v.toInt ∧ ((u = x ∧ v = y) ∨ (u = y ∧ v = x))
theorem own_P.sum {x y u v : Int64} (h : own_P x y u v) (f : Int64 → Nat) : f u + f v = f x + f y := by
  obtain ⟨-, ⟨rfl, rfl⟩ | ⟨rfl, rfl⟩⟩ := h <;> omega
theorem own_P.le {x y u v : Int64} (h : own_P x y u v) : u.toInt ≤ v.toInt := h.1
theorem own_P.lo {x y u v : Int64} (h : own_P x y u v) : u.toInt ≤ x.toInt ∧ u.toInt ≤ y.toInt ∧ x.toInt ≤ v.toInt ∧ y.toInt ≤ v.toInt := by
  obtain ⟨h1, ⟨rfl, rfl⟩ | ⟨rfl, rfl⟩⟩ := h <;> omega
theorem own_P.ge {x y u v : Int64} (h : own_P x y u v) {z : Int} (h1 : z ≤ x.toInt) (h2 : z ≤ y.toInt) : z ≤ u.toInt := by
  obtain ⟨-, ⟨rfl, rfl⟩ | ⟨rfl, rfl⟩⟩ := h <;> omega
theorem own_P.up {x y u v : Int64} (h : own_P x y u v) {z : Int} (h1 : x.toInt ≤ z) (h2 : y.toInt ≤ z) : v.toInt ≤ z := by
  obtain ⟨-, ⟨rfl, rfl⟩ | ⟨rfl, rfl⟩⟩ := h <;> omega
theorem d1_0 : decode method_2_code 0 = .ok (.aload_n 0, 1) := by decide +kernel
theorem d1_1 : decode method_2_code 1 = .ok (.iload_n 2, 1) := by decide +kernel
theorem d1_2 : decode method_2_code 2 = .ok (.laload, 1) := by decide +kernel
theorem d1_3 : decode method_2_code 3 = .ok (.aload_n 0, 1) := by decide +kernel
theorem d1_4 : decode method_2_code 4 = .ok (.iload_n 1, 1) := by decide +kernel
theorem d1_5 : decode method_2_code 5 = .ok (.laload, 1) := by decide +kernel
theorem d1_6 : decode method_2_code 6 = .ok (.lcmp, 1) := by decide +kernel
theorem d1_7 : decode method_2_code 7 = .ok (.ifCond .ge 17, 3) := by decide +kernel
theorem d1_10 : decode method_2_code 10 = .ok (.aload_n 0, 1) := by decide +kernel
theorem d1_11 : decode method_2_code 11 = .ok (.iload_n 1, 1) := by decide +kernel
theorem d1_12 : decode method_2_code 12 = .ok (.laload, 1) := by decide +kernel
theorem d1_13 : decode method_2_code 13 = .ok (.lstore_n 3, 1) := by decide +kernel
theorem d1_14 : decode method_2_code 14 = .ok (.aload_n 0, 1) := by decide +kernel
theorem d1_15 : decode method_2_code 15 = .ok (.iload_n 1, 1) := by decide +kernel
theorem d1_16 : decode method_2_code 16 = .ok (.aload_n 0, 1) := by decide +kernel
theorem d1_17 : decode method_2_code 17 = .ok (.iload_n 2, 1) := by decide +kernel
theorem d1_18 : decode method_2_code 18 = .ok (.laload, 1) := by decide +kernel
theorem d1_19 : decode method_2_code 19 = .ok (.lastore, 1) := by decide +kernel
theorem d1_20 : decode method_2_code 20 = .ok (.aload_n 0, 1) := by decide +kernel
theorem d1_21 : decode method_2_code 21 = .ok (.iload_n 2, 1) := by decide +kernel
theorem d1_22 : decode method_2_code 22 = .ok (.lload_n 3, 1) := by decide +kernel
theorem d1_23 : decode method_2_code 23 = .ok (.lastore, 1) := by decide +kernel
theorem d1_24 : decode method_2_code 24 = .ok (.return_, 1) := by decide +kernel
theorem ef_1 (m : MethodId) (ar : Addr) (x1 : Int32) (x2 : Int32) : entryFrame m #[(.ref ar), (.int x1), (.int x2)] 5 = mkF m 0 #[.val (.ref ar), .val (.int x1), .val (.int x2), .unset, .unset] [] := by first | (simp [entryFrame, mkF, argsToLocals, Value.category]; done) | rfl
set_option maxRecDepth 65536 in
set_option maxHeartbeats 40000000 in
theorem rm1_01 (l : Launch) (Z : State) (a0 : Array Value) (hw : ∀ d ∈ tables_1, d.before a0 Z = true) (ar : Addr) (h0 : Heap) (n0 : Nat) (Z0 : n0 ≤ h0.size) (y0 : Int64) (y1 : Int64) (y2 : Int64) (y3 : Int64) (y4 : Int64) (g_ar : n0 ≤ ar) (V_ar : AJ Z h0 ar [y0, y1, y2, y3, y4]) :
    Con l Z (⟨"com/example/facet/facet/regex/MinQueuePollPinLaw", "cs", "([JII)V"⟩ : MethodName) method_2_code 5 none ({ frames := 0, cells := 0, slots := 0, locals := 0 } : Room) #[(.ref ar), (.int (0 : Int32)), (.int (1 : Int32))] h0 (fun r h L => r = none ∧ Fr n0 L ∧ Keep h0 h [ar] ∧ ∃ u v : Int64, own_P y0 y1 u v ∧ AJ Z h ar [u, v, y2, y3, y4]) := by
  refine Con.of (plainFor_of_name (by first | (simp [plainName, overriddenIn]; done) | decide +kernel)) ?_
  intro p e s m below meth c T X hx hZ hby hml hown hnm hret hlk e0
  rw [ef_1]
  have N0 := Fr.nil n0
  have KP0 := Keep.refl h0 [ar]
  show Go p e below s 0 0 (fun r h L => r = none ∧ Fr n0 L ∧ Keep h0 h [ar] ∧ ∃ u v : Int64, own_P y0 y1 u v ∧ AJ Z h ar [u, v, y2, y3, y4]) T (mkF m 0 #[.val (.ref ar), .val (.int (0 : Int32)), .val (.int (1 : Int32)), .unset, .unset] [])
  refine w_aloadN X hx (hb hby d1_0) (pc' := 1) rfl rfl rfl ?_
  refine w_iloadN X hx (hb hby d1_1) (pc' := 2) rfl rfl ?_
  refine w_laload X hx hZ e0 V_ar (v := y1) (by decide) rfl (hb hby d1_2) (pc' := 3) rfl ?_
  refine w_aloadN X hx (hb hby d1_3) (pc' := 4) rfl rfl rfl ?_
  refine w_iloadN X hx (hb hby d1_4) (pc' := 5) rfl rfl ?_
  refine w_laload X hx hZ e0 V_ar (v := y0) (by decide) rfl (hb hby d1_5) (pc' := 6) rfl ?_
  refine w_lcmp X hx (hb hby d1_6) (pc' := 7) rfl ?_
  refine w_ifL_ge X hx (hb hby d1_7) (pf := 10) (pt := 24) rfl (by decide) (by decide) (fun hc7 => ?_) (fun hc7 => ?_)
  · exact w_retV X hx hret hlk (hb hby d1_24) (by decide) (by decide) (by rw [e0]; exact ⟨rfl, N0, KP0, y0, y1, ⟨by rw [Int64.lt_iff_toInt_lt] at hc7; omega, Or.inl ⟨rfl, rfl⟩⟩, V_ar⟩)
  · refine w_aloadN X hx (hb hby d1_10) (pc' := 11) rfl rfl rfl ?_
    refine w_iloadN X hx (hb hby d1_11) (pc' := 12) rfl rfl ?_
    refine w_laload X hx hZ e0 V_ar (v := y0) (by decide) rfl (hb hby d1_12) (pc' := 13) rfl ?_
    refine w_lstoreN (Ls' := #[.val (.ref ar), .val (.int (0 : Int32)), .val (.int (1 : Int32)), .val (.long y0), .second]) X hx (hb hby d1_13) (pc' := 14) rfl rfl ?_
    refine w_aloadN X hx (hb hby d1_14) (pc' := 15) rfl rfl rfl ?_
    refine w_iloadN X hx (hb hby d1_15) (pc' := 16) rfl rfl ?_
    refine w_aloadN X hx (hb hby d1_16) (pc' := 17) rfl rfl rfl ?_
    refine w_iloadN X hx (hb hby d1_17) (pc' := 18) rfl rfl ?_
    refine w_laload X hx hZ e0 V_ar (v := y1) (by decide) rfl (hb hby d1_18) (pc' := 19) rfl ?_
    refine w_lastore X hx hZ e0 V_ar (by decide) (by show _ < 5; decide) (hb hby d1_19) (pc' := 20) rfl (fun T5 h5 X5 e5 W5 V5 => ?_)
    have V5 : AJ Z h5 ar [y1, y1, y2, y3, y4] := V5
    have KP5 := KP0.wr W5 (Or.inl (by simp))
    have N5 := Fr.snoc X5 N0 g_ar
    have zn5 : n0 ≤ h5.size := by rw [W5.size]; exact Z0
    refine w_aloadN X5 hx (hb hby d1_20) (pc' := 21) rfl rfl rfl ?_
    refine w_iloadN X5 hx (hb hby d1_21) (pc' := 22) rfl rfl ?_
    refine w_lloadN X5 hx (hb hby d1_22) (pc' := 23) rfl rfl ?_
    refine w_lastore X5 hx hZ e5 V5 (by decide) (by show _ < 5; decide) (hb hby d1_23) (pc' := 24) rfl (fun T6 h6 X6 e6 W6 V6 => ?_)
    have V6 : AJ Z h6 ar [y1, y0, y2, y3, y4] := V6
    have KP6 := KP5.wr W6 (Or.inl (by simp))
    have N6 := Fr.snoc X6 N5 g_ar
    have zn6 : n0 ≤ h6.size := by rw [W6.size]; exact zn5
    exact w_retV X6 hx hret hlk (hb hby d1_24) (by decide) (by decide) (by rw [e6]; exact ⟨rfl, N6, KP6, y1, y0, ⟨by rw [Int64.lt_iff_toInt_lt] at hc7; omega, Or.inr ⟨rfl, rfl⟩⟩, V6⟩)
set_option maxRecDepth 65536 in
set_option maxHeartbeats 40000000 in
theorem rm1_34 (l : Launch) (Z : State) (a0 : Array Value) (hw : ∀ d ∈ tables_1, d.before a0 Z = true) (ar : Addr) (h0 : Heap) (n0 : Nat) (Z0 : n0 ≤ h0.size) (y0 : Int64) (y1 : Int64) (y2 : Int64) (y3 : Int64) (y4 : Int64) (g_ar : n0 ≤ ar) (V_ar : AJ Z h0 ar [y0, y1, y2, y3, y4]) :
    Con l Z (⟨"com/example/facet/facet/regex/MinQueuePollPinLaw", "cs", "([JII)V"⟩ : MethodName) method_2_code 5 none ({ frames := 0, cells := 0, slots := 0, locals := 0 } : Room) #[(.ref ar), (.int (3 : Int32)), (.int (4 : Int32))] h0 (fun r h L => r = none ∧ Fr n0 L ∧ Keep h0 h [ar] ∧ ∃ u v : Int64, own_P y3 y4 u v ∧ AJ Z h ar [y0, y1, y2, u, v]) := by
  refine Con.of (plainFor_of_name (by first | (simp [plainName, overriddenIn]; done) | decide +kernel)) ?_
  intro p e s m below meth c T X hx hZ hby hml hown hnm hret hlk e0
  rw [ef_1]
  have N0 := Fr.nil n0
  have KP0 := Keep.refl h0 [ar]
  show Go p e below s 0 0 (fun r h L => r = none ∧ Fr n0 L ∧ Keep h0 h [ar] ∧ ∃ u v : Int64, own_P y3 y4 u v ∧ AJ Z h ar [y0, y1, y2, u, v]) T (mkF m 0 #[.val (.ref ar), .val (.int (3 : Int32)), .val (.int (4 : Int32)), .unset, .unset] [])
  refine w_aloadN X hx (hb hby d1_0) (pc' := 1) rfl rfl rfl ?_
  refine w_iloadN X hx (hb hby d1_1) (pc' := 2) rfl rfl ?_
  refine w_laload X hx hZ e0 V_ar (v := y4) (by decide) rfl (hb hby d1_2) (pc' := 3) rfl ?_
  refine w_aloadN X hx (hb hby d1_3) (pc' := 4) rfl rfl rfl ?_
  refine w_iloadN X hx (hb hby d1_4) (pc' := 5) rfl rfl ?_
  refine w_laload X hx hZ e0 V_ar (v := y3) (by decide) rfl (hb hby d1_5) (pc' := 6) rfl ?_
  refine w_lcmp X hx (hb hby d1_6) (pc' := 7) rfl ?_
  refine w_ifL_ge X hx (hb hby d1_7) (pf := 10) (pt := 24) rfl (by decide) (by decide) (fun hc7 => ?_) (fun hc7 => ?_)
  · exact w_retV X hx hret hlk (hb hby d1_24) (by decide) (by decide) (by rw [e0]; exact ⟨rfl, N0, KP0, y3, y4, ⟨by rw [Int64.lt_iff_toInt_lt] at hc7; omega, Or.inl ⟨rfl, rfl⟩⟩, V_ar⟩)
  · refine w_aloadN X hx (hb hby d1_10) (pc' := 11) rfl rfl rfl ?_
    refine w_iloadN X hx (hb hby d1_11) (pc' := 12) rfl rfl ?_
    refine w_laload X hx hZ e0 V_ar (v := y3) (by decide) rfl (hb hby d1_12) (pc' := 13) rfl ?_
    refine w_lstoreN (Ls' := #[.val (.ref ar), .val (.int (3 : Int32)), .val (.int (4 : Int32)), .val (.long y3), .second]) X hx (hb hby d1_13) (pc' := 14) rfl rfl ?_
    refine w_aloadN X hx (hb hby d1_14) (pc' := 15) rfl rfl rfl ?_
    refine w_iloadN X hx (hb hby d1_15) (pc' := 16) rfl rfl ?_
    refine w_aloadN X hx (hb hby d1_16) (pc' := 17) rfl rfl rfl ?_
    refine w_iloadN X hx (hb hby d1_17) (pc' := 18) rfl rfl ?_
    refine w_laload X hx hZ e0 V_ar (v := y4) (by decide) rfl (hb hby d1_18) (pc' := 19) rfl ?_
    refine w_lastore X hx hZ e0 V_ar (by decide) (by show _ < 5; decide) (hb hby d1_19) (pc' := 20) rfl (fun T7 h7 X7 e7 W7 V7 => ?_)
    have V7 : AJ Z h7 ar [y0, y1, y2, y4, y4] := V7
    have KP7 := KP0.wr W7 (Or.inl (by simp))
    have N7 := Fr.snoc X7 N0 g_ar
    have zn7 : n0 ≤ h7.size := by rw [W7.size]; exact Z0
    refine w_aloadN X7 hx (hb hby d1_20) (pc' := 21) rfl rfl rfl ?_
    refine w_iloadN X7 hx (hb hby d1_21) (pc' := 22) rfl rfl ?_
    refine w_lloadN X7 hx (hb hby d1_22) (pc' := 23) rfl rfl ?_
    refine w_lastore X7 hx hZ e7 V7 (by decide) (by show _ < 5; decide) (hb hby d1_23) (pc' := 24) rfl (fun T8 h8 X8 e8 W8 V8 => ?_)
    have V8 : AJ Z h8 ar [y0, y1, y2, y4, y3] := V8
    have KP8 := KP7.wr W8 (Or.inl (by simp))
    have N8 := Fr.snoc X8 N7 g_ar
    have zn8 : n0 ≤ h8.size := by rw [W8.size]; exact zn7
    exact w_retV X8 hx hret hlk (hb hby d1_24) (by decide) (by decide) (by rw [e8]; exact ⟨rfl, N8, KP8, y4, y3, ⟨by rw [Int64.lt_iff_toInt_lt] at hc7; omega, Or.inr ⟨rfl, rfl⟩⟩, V8⟩)
set_option maxRecDepth 65536 in
set_option maxHeartbeats 40000000 in
theorem rm1_24 (l : Launch) (Z : State) (a0 : Array Value) (hw : ∀ d ∈ tables_1, d.before a0 Z = true) (ar : Addr) (h0 : Heap) (n0 : Nat) (Z0 : n0 ≤ h0.size) (y0 : Int64) (y1 : Int64) (y2 : Int64) (y3 : Int64) (y4 : Int64) (g_ar : n0 ≤ ar) (V_ar : AJ Z h0 ar [y0, y1, y2, y3, y4]) :
    Con l Z (⟨"com/example/facet/facet/regex/MinQueuePollPinLaw", "cs", "([JII)V"⟩ : MethodName) method_2_code 5 none ({ frames := 0, cells := 0, slots := 0, locals := 0 } : Room) #[(.ref ar), (.int (2 : Int32)), (.int (4 : Int32))] h0 (fun r h L => r = none ∧ Fr n0 L ∧ Keep h0 h [ar] ∧ ∃ u v : Int64, own_P y2 y4 u v ∧ AJ Z h ar [y0, y1, u, y3, v]) := by
  refine Con.of (plainFor_of_name (by first | (simp [plainName, overriddenIn]; done) | decide +kernel)) ?_
  intro p e s m below meth c T X hx hZ hby hml hown hnm hret hlk e0
  rw [ef_1]
  have N0 := Fr.nil n0
  have KP0 := Keep.refl h0 [ar]
  show Go p e below s 0 0 (fun r h L => r = none ∧ Fr n0 L ∧ Keep h0 h [ar] ∧ ∃ u v : Int64, own_P y2 y4 u v ∧ AJ Z h ar [y0, y1, u, y3, v]) T (mkF m 0 #[.val (.ref ar), .val (.int (2 : Int32)), .val (.int (4 : Int32)), .unset, .unset] [])
  refine w_aloadN X hx (hb hby d1_0) (pc' := 1) rfl rfl rfl ?_
  refine w_iloadN X hx (hb hby d1_1) (pc' := 2) rfl rfl ?_
  refine w_laload X hx hZ e0 V_ar (v := y4) (by decide) rfl (hb hby d1_2) (pc' := 3) rfl ?_
  refine w_aloadN X hx (hb hby d1_3) (pc' := 4) rfl rfl rfl ?_
  refine w_iloadN X hx (hb hby d1_4) (pc' := 5) rfl rfl ?_
  refine w_laload X hx hZ e0 V_ar (v := y2) (by decide) rfl (hb hby d1_5) (pc' := 6) rfl ?_
  refine w_lcmp X hx (hb hby d1_6) (pc' := 7) rfl ?_
  refine w_ifL_ge X hx (hb hby d1_7) (pf := 10) (pt := 24) rfl (by decide) (by decide) (fun hc7 => ?_) (fun hc7 => ?_)
  · exact w_retV X hx hret hlk (hb hby d1_24) (by decide) (by decide) (by rw [e0]; exact ⟨rfl, N0, KP0, y2, y4, ⟨by rw [Int64.lt_iff_toInt_lt] at hc7; omega, Or.inl ⟨rfl, rfl⟩⟩, V_ar⟩)
  · refine w_aloadN X hx (hb hby d1_10) (pc' := 11) rfl rfl rfl ?_
    refine w_iloadN X hx (hb hby d1_11) (pc' := 12) rfl rfl ?_
    refine w_laload X hx hZ e0 V_ar (v := y2) (by decide) rfl (hb hby d1_12) (pc' := 13) rfl ?_
    refine w_lstoreN (Ls' := #[.val (.ref ar), .val (.int (2 : Int32)), .val (.int (4 : Int32)), .val (.long y2), .second]) X hx (hb hby d1_13) (pc' := 14) rfl rfl ?_
    refine w_aloadN X hx (hb hby d1_14) (pc' := 15) rfl rfl rfl ?_
    refine w_iloadN X hx (hb hby d1_15) (pc' := 16) rfl rfl ?_
    refine w_aloadN X hx (hb hby d1_16) (pc' := 17) rfl rfl rfl ?_
    refine w_iloadN X hx (hb hby d1_17) (pc' := 18) rfl rfl ?_
    refine w_laload X hx hZ e0 V_ar (v := y4) (by decide) rfl (hb hby d1_18) (pc' := 19) rfl ?_
    refine w_lastore X hx hZ e0 V_ar (by decide) (by show _ < 5; decide) (hb hby d1_19) (pc' := 20) rfl (fun T9 h9 X9 e9 W9 V9 => ?_)
    have V9 : AJ Z h9 ar [y0, y1, y4, y3, y4] := V9
    have KP9 := KP0.wr W9 (Or.inl (by simp))
    have N9 := Fr.snoc X9 N0 g_ar
    have zn9 : n0 ≤ h9.size := by rw [W9.size]; exact Z0
    refine w_aloadN X9 hx (hb hby d1_20) (pc' := 21) rfl rfl rfl ?_
    refine w_iloadN X9 hx (hb hby d1_21) (pc' := 22) rfl rfl ?_
    refine w_lloadN X9 hx (hb hby d1_22) (pc' := 23) rfl rfl ?_
    refine w_lastore X9 hx hZ e9 V9 (by decide) (by show _ < 5; decide) (hb hby d1_23) (pc' := 24) rfl (fun T10 h10 X10 e10 W10 V10 => ?_)
    have V10 : AJ Z h10 ar [y0, y1, y4, y3, y2] := V10
    have KP10 := KP9.wr W10 (Or.inl (by simp))
    have N10 := Fr.snoc X10 N9 g_ar
    have zn10 : n0 ≤ h10.size := by rw [W10.size]; exact zn9
    exact w_retV X10 hx hret hlk (hb hby d1_24) (by decide) (by decide) (by rw [e10]; exact ⟨rfl, N10, KP10, y4, y2, ⟨by rw [Int64.lt_iff_toInt_lt] at hc7; omega, Or.inr ⟨rfl, rfl⟩⟩, V10⟩)
set_option maxRecDepth 65536 in
set_option maxHeartbeats 40000000 in
theorem rm1_23 (l : Launch) (Z : State) (a0 : Array Value) (hw : ∀ d ∈ tables_1, d.before a0 Z = true) (ar : Addr) (h0 : Heap) (n0 : Nat) (Z0 : n0 ≤ h0.size) (y0 : Int64) (y1 : Int64) (y2 : Int64) (y3 : Int64) (y4 : Int64) (g_ar : n0 ≤ ar) (V_ar : AJ Z h0 ar [y0, y1, y2, y3, y4]) :
    Con l Z (⟨"com/example/facet/facet/regex/MinQueuePollPinLaw", "cs", "([JII)V"⟩ : MethodName) method_2_code 5 none ({ frames := 0, cells := 0, slots := 0, locals := 0 } : Room) #[(.ref ar), (.int (2 : Int32)), (.int (3 : Int32))] h0 (fun r h L => r = none ∧ Fr n0 L ∧ Keep h0 h [ar] ∧ ∃ u v : Int64, own_P y2 y3 u v ∧ AJ Z h ar [y0, y1, u, v, y4]) := by
  refine Con.of (plainFor_of_name (by first | (simp [plainName, overriddenIn]; done) | decide +kernel)) ?_
  intro p e s m below meth c T X hx hZ hby hml hown hnm hret hlk e0
  rw [ef_1]
  have N0 := Fr.nil n0
  have KP0 := Keep.refl h0 [ar]
  show Go p e below s 0 0 (fun r h L => r = none ∧ Fr n0 L ∧ Keep h0 h [ar] ∧ ∃ u v : Int64, own_P y2 y3 u v ∧ AJ Z h ar [y0, y1, u, v, y4]) T (mkF m 0 #[.val (.ref ar), .val (.int (2 : Int32)), .val (.int (3 : Int32)), .unset, .unset] [])
  refine w_aloadN X hx (hb hby d1_0) (pc' := 1) rfl rfl rfl ?_
  refine w_iloadN X hx (hb hby d1_1) (pc' := 2) rfl rfl ?_
  refine w_laload X hx hZ e0 V_ar (v := y3) (by decide) rfl (hb hby d1_2) (pc' := 3) rfl ?_
  refine w_aloadN X hx (hb hby d1_3) (pc' := 4) rfl rfl rfl ?_
  refine w_iloadN X hx (hb hby d1_4) (pc' := 5) rfl rfl ?_
  refine w_laload X hx hZ e0 V_ar (v := y2) (by decide) rfl (hb hby d1_5) (pc' := 6) rfl ?_
  refine w_lcmp X hx (hb hby d1_6) (pc' := 7) rfl ?_
  refine w_ifL_ge X hx (hb hby d1_7) (pf := 10) (pt := 24) rfl (by decide) (by decide) (fun hc7 => ?_) (fun hc7 => ?_)
  · exact w_retV X hx hret hlk (hb hby d1_24) (by decide) (by decide) (by rw [e0]; exact ⟨rfl, N0, KP0, y2, y3, ⟨by rw [Int64.lt_iff_toInt_lt] at hc7; omega, Or.inl ⟨rfl, rfl⟩⟩, V_ar⟩)
  · refine w_aloadN X hx (hb hby d1_10) (pc' := 11) rfl rfl rfl ?_
    refine w_iloadN X hx (hb hby d1_11) (pc' := 12) rfl rfl ?_
    refine w_laload X hx hZ e0 V_ar (v := y2) (by decide) rfl (hb hby d1_12) (pc' := 13) rfl ?_
    refine w_lstoreN (Ls' := #[.val (.ref ar), .val (.int (2 : Int32)), .val (.int (3 : Int32)), .val (.long y2), .second]) X hx (hb hby d1_13) (pc' := 14) rfl rfl ?_
    refine w_aloadN X hx (hb hby d1_14) (pc' := 15) rfl rfl rfl ?_
    refine w_iloadN X hx (hb hby d1_15) (pc' := 16) rfl rfl ?_
    refine w_aloadN X hx (hb hby d1_16) (pc' := 17) rfl rfl rfl ?_
    refine w_iloadN X hx (hb hby d1_17) (pc' := 18) rfl rfl ?_
    refine w_laload X hx hZ e0 V_ar (v := y3) (by decide) rfl (hb hby d1_18) (pc' := 19) rfl ?_
    refine w_lastore X hx hZ e0 V_ar (by decide) (by show _ < 5; decide) (hb hby d1_19) (pc' := 20) rfl (fun T11 h11 X11 e11 W11 V11 => ?_)
    have V11 : AJ Z h11 ar [y0, y1, y3, y3, y4] := V11
    have KP11 := KP0.wr W11 (Or.inl (by simp))
    have N11 := Fr.snoc X11 N0 g_ar
    have zn11 : n0 ≤ h11.size := by rw [W11.size]; exact Z0
    refine w_aloadN X11 hx (hb hby d1_20) (pc' := 21) rfl rfl rfl ?_
    refine w_iloadN X11 hx (hb hby d1_21) (pc' := 22) rfl rfl ?_
    refine w_lloadN X11 hx (hb hby d1_22) (pc' := 23) rfl rfl ?_
    refine w_lastore X11 hx hZ e11 V11 (by decide) (by show _ < 5; decide) (hb hby d1_23) (pc' := 24) rfl (fun T12 h12 X12 e12 W12 V12 => ?_)
    have V12 : AJ Z h12 ar [y0, y1, y3, y2, y4] := V12
    have KP12 := KP11.wr W12 (Or.inl (by simp))
    have N12 := Fr.snoc X12 N11 g_ar
    have zn12 : n0 ≤ h12.size := by rw [W12.size]; exact zn11
    exact w_retV X12 hx hret hlk (hb hby d1_24) (by decide) (by decide) (by rw [e12]; exact ⟨rfl, N12, KP12, y3, y2, ⟨by rw [Int64.lt_iff_toInt_lt] at hc7; omega, Or.inr ⟨rfl, rfl⟩⟩, V12⟩)
set_option maxRecDepth 65536 in
set_option maxHeartbeats 40000000 in
theorem rm1_03 (l : Launch) (Z : State) (a0 : Array Value) (hw : ∀ d ∈ tables_1, d.before a0 Z = true) (ar : Addr) (h0 : Heap) (n0 : Nat) (Z0 : n0 ≤ h0.size) (y0 : Int64) (y1 : Int64) (y2 : Int64) (y3 : Int64) (y4 : Int64) (g_ar : n0 ≤ ar) (V_ar : AJ Z h0 ar [y0, y1, y2, y3, y4]) :
    Con l Z (⟨"com/example/facet/facet/regex/MinQueuePollPinLaw", "cs", "([JII)V"⟩ : MethodName) method_2_code 5 none ({ frames := 0, cells := 0, slots := 0, locals := 0 } : Room) #[(.ref ar), (.int (0 : Int32)), (.int (3 : Int32))] h0 (fun r h L => r = none ∧ Fr n0 L ∧ Keep h0 h [ar] ∧ ∃ u v : Int64, own_P y0 y3 u v ∧ AJ Z h ar [u, y1, y2, v, y4]) := by
  refine Con.of (plainFor_of_name (by first | (simp [plainName, overriddenIn]; done) | decide +kernel)) ?_
  intro p e s m below meth c T X hx hZ hby hml hown hnm hret hlk e0
  rw [ef_1]
  have N0 := Fr.nil n0
  have KP0 := Keep.refl h0 [ar]
  show Go p e below s 0 0 (fun r h L => r = none ∧ Fr n0 L ∧ Keep h0 h [ar] ∧ ∃ u v : Int64, own_P y0 y3 u v ∧ AJ Z h ar [u, y1, y2, v, y4]) T (mkF m 0 #[.val (.ref ar), .val (.int (0 : Int32)), .val (.int (3 : Int32)), .unset, .unset] [])
  refine w_aloadN X hx (hb hby d1_0) (pc' := 1) rfl rfl rfl ?_
  refine w_iloadN X hx (hb hby d1_1) (pc' := 2) rfl rfl ?_
  refine w_laload X hx hZ e0 V_ar (v := y3) (by decide) rfl (hb hby d1_2) (pc' := 3) rfl ?_
  refine w_aloadN X hx (hb hby d1_3) (pc' := 4) rfl rfl rfl ?_
  refine w_iloadN X hx (hb hby d1_4) (pc' := 5) rfl rfl ?_
  refine w_laload X hx hZ e0 V_ar (v := y0) (by decide) rfl (hb hby d1_5) (pc' := 6) rfl ?_
  refine w_lcmp X hx (hb hby d1_6) (pc' := 7) rfl ?_
  refine w_ifL_ge X hx (hb hby d1_7) (pf := 10) (pt := 24) rfl (by decide) (by decide) (fun hc7 => ?_) (fun hc7 => ?_)
  · exact w_retV X hx hret hlk (hb hby d1_24) (by decide) (by decide) (by rw [e0]; exact ⟨rfl, N0, KP0, y0, y3, ⟨by rw [Int64.lt_iff_toInt_lt] at hc7; omega, Or.inl ⟨rfl, rfl⟩⟩, V_ar⟩)
  · refine w_aloadN X hx (hb hby d1_10) (pc' := 11) rfl rfl rfl ?_
    refine w_iloadN X hx (hb hby d1_11) (pc' := 12) rfl rfl ?_
    refine w_laload X hx hZ e0 V_ar (v := y0) (by decide) rfl (hb hby d1_12) (pc' := 13) rfl ?_
    refine w_lstoreN (Ls' := #[.val (.ref ar), .val (.int (0 : Int32)), .val (.int (3 : Int32)), .val (.long y0), .second]) X hx (hb hby d1_13) (pc' := 14) rfl rfl ?_
    refine w_aloadN X hx (hb hby d1_14) (pc' := 15) rfl rfl rfl ?_
    refine w_iloadN X hx (hb hby d1_15) (pc' := 16) rfl rfl ?_
    refine w_aloadN X hx (hb hby d1_16) (pc' := 17) rfl rfl rfl ?_
    refine w_iloadN X hx (hb hby d1_17) (pc' := 18) rfl rfl ?_
    refine w_laload X hx hZ e0 V_ar (v := y3) (by decide) rfl (hb hby d1_18) (pc' := 19) rfl ?_
    refine w_lastore X hx hZ e0 V_ar (by decide) (by show _ < 5; decide) (hb hby d1_19) (pc' := 20) rfl (fun T13 h13 X13 e13 W13 V13 => ?_)
    have V13 : AJ Z h13 ar [y3, y1, y2, y3, y4] := V13
    have KP13 := KP0.wr W13 (Or.inl (by simp))
    have N13 := Fr.snoc X13 N0 g_ar
    have zn13 : n0 ≤ h13.size := by rw [W13.size]; exact Z0
    refine w_aloadN X13 hx (hb hby d1_20) (pc' := 21) rfl rfl rfl ?_
    refine w_iloadN X13 hx (hb hby d1_21) (pc' := 22) rfl rfl ?_
    refine w_lloadN X13 hx (hb hby d1_22) (pc' := 23) rfl rfl ?_
    refine w_lastore X13 hx hZ e13 V13 (by decide) (by show _ < 5; decide) (hb hby d1_23) (pc' := 24) rfl (fun T14 h14 X14 e14 W14 V14 => ?_)
    have V14 : AJ Z h14 ar [y3, y1, y2, y0, y4] := V14
    have KP14 := KP13.wr W14 (Or.inl (by simp))
    have N14 := Fr.snoc X14 N13 g_ar
    have zn14 : n0 ≤ h14.size := by rw [W14.size]; exact zn13
    exact w_retV X14 hx hret hlk (hb hby d1_24) (by decide) (by decide) (by rw [e14]; exact ⟨rfl, N14, KP14, y3, y0, ⟨by rw [Int64.lt_iff_toInt_lt] at hc7; omega, Or.inr ⟨rfl, rfl⟩⟩, V14⟩)
set_option maxRecDepth 65536 in
set_option maxHeartbeats 40000000 in
theorem rm1_02 (l : Launch) (Z : State) (a0 : Array Value) (hw : ∀ d ∈ tables_1, d.before a0 Z = true) (ar : Addr) (h0 : Heap) (n0 : Nat) (Z0 : n0 ≤ h0.size) (y0 : Int64) (y1 : Int64) (y2 : Int64) (y3 : Int64) (y4 : Int64) (g_ar : n0 ≤ ar) (V_ar : AJ Z h0 ar [y0, y1, y2, y3, y4]) :
    Con l Z (⟨"com/example/facet/facet/regex/MinQueuePollPinLaw", "cs", "([JII)V"⟩ : MethodName) method_2_code 5 none ({ frames := 0, cells := 0, slots := 0, locals := 0 } : Room) #[(.ref ar), (.int (0 : Int32)), (.int (2 : Int32))] h0 (fun r h L => r = none ∧ Fr n0 L ∧ Keep h0 h [ar] ∧ ∃ u v : Int64, own_P y0 y2 u v ∧ AJ Z h ar [u, y1, v, y3, y4]) := by
  refine Con.of (plainFor_of_name (by first | (simp [plainName, overriddenIn]; done) | decide +kernel)) ?_
  intro p e s m below meth c T X hx hZ hby hml hown hnm hret hlk e0
  rw [ef_1]
  have N0 := Fr.nil n0
  have KP0 := Keep.refl h0 [ar]
  show Go p e below s 0 0 (fun r h L => r = none ∧ Fr n0 L ∧ Keep h0 h [ar] ∧ ∃ u v : Int64, own_P y0 y2 u v ∧ AJ Z h ar [u, y1, v, y3, y4]) T (mkF m 0 #[.val (.ref ar), .val (.int (0 : Int32)), .val (.int (2 : Int32)), .unset, .unset] [])
  refine w_aloadN X hx (hb hby d1_0) (pc' := 1) rfl rfl rfl ?_
  refine w_iloadN X hx (hb hby d1_1) (pc' := 2) rfl rfl ?_
  refine w_laload X hx hZ e0 V_ar (v := y2) (by decide) rfl (hb hby d1_2) (pc' := 3) rfl ?_
  refine w_aloadN X hx (hb hby d1_3) (pc' := 4) rfl rfl rfl ?_
  refine w_iloadN X hx (hb hby d1_4) (pc' := 5) rfl rfl ?_
  refine w_laload X hx hZ e0 V_ar (v := y0) (by decide) rfl (hb hby d1_5) (pc' := 6) rfl ?_
  refine w_lcmp X hx (hb hby d1_6) (pc' := 7) rfl ?_
  refine w_ifL_ge X hx (hb hby d1_7) (pf := 10) (pt := 24) rfl (by decide) (by decide) (fun hc7 => ?_) (fun hc7 => ?_)
  · exact w_retV X hx hret hlk (hb hby d1_24) (by decide) (by decide) (by rw [e0]; exact ⟨rfl, N0, KP0, y0, y2, ⟨by rw [Int64.lt_iff_toInt_lt] at hc7; omega, Or.inl ⟨rfl, rfl⟩⟩, V_ar⟩)
  · refine w_aloadN X hx (hb hby d1_10) (pc' := 11) rfl rfl rfl ?_
    refine w_iloadN X hx (hb hby d1_11) (pc' := 12) rfl rfl ?_
    refine w_laload X hx hZ e0 V_ar (v := y0) (by decide) rfl (hb hby d1_12) (pc' := 13) rfl ?_
    refine w_lstoreN (Ls' := #[.val (.ref ar), .val (.int (0 : Int32)), .val (.int (2 : Int32)), .val (.long y0), .second]) X hx (hb hby d1_13) (pc' := 14) rfl rfl ?_
    refine w_aloadN X hx (hb hby d1_14) (pc' := 15) rfl rfl rfl ?_
    refine w_iloadN X hx (hb hby d1_15) (pc' := 16) rfl rfl ?_
    refine w_aloadN X hx (hb hby d1_16) (pc' := 17) rfl rfl rfl ?_
    refine w_iloadN X hx (hb hby d1_17) (pc' := 18) rfl rfl ?_
    refine w_laload X hx hZ e0 V_ar (v := y2) (by decide) rfl (hb hby d1_18) (pc' := 19) rfl ?_
    refine w_lastore X hx hZ e0 V_ar (by decide) (by show _ < 5; decide) (hb hby d1_19) (pc' := 20) rfl (fun T15 h15 X15 e15 W15 V15 => ?_)
    have V15 : AJ Z h15 ar [y2, y1, y2, y3, y4] := V15
    have KP15 := KP0.wr W15 (Or.inl (by simp))
    have N15 := Fr.snoc X15 N0 g_ar
    have zn15 : n0 ≤ h15.size := by rw [W15.size]; exact Z0
    refine w_aloadN X15 hx (hb hby d1_20) (pc' := 21) rfl rfl rfl ?_
    refine w_iloadN X15 hx (hb hby d1_21) (pc' := 22) rfl rfl ?_
    refine w_lloadN X15 hx (hb hby d1_22) (pc' := 23) rfl rfl ?_
    refine w_lastore X15 hx hZ e15 V15 (by decide) (by show _ < 5; decide) (hb hby d1_23) (pc' := 24) rfl (fun T16 h16 X16 e16 W16 V16 => ?_)
    have V16 : AJ Z h16 ar [y2, y1, y0, y3, y4] := V16
    have KP16 := KP15.wr W16 (Or.inl (by simp))
    have N16 := Fr.snoc X16 N15 g_ar
    have zn16 : n0 ≤ h16.size := by rw [W16.size]; exact zn15
    exact w_retV X16 hx hret hlk (hb hby d1_24) (by decide) (by decide) (by rw [e16]; exact ⟨rfl, N16, KP16, y2, y0, ⟨by rw [Int64.lt_iff_toInt_lt] at hc7; omega, Or.inr ⟨rfl, rfl⟩⟩, V16⟩)
set_option maxRecDepth 65536 in
set_option maxHeartbeats 40000000 in
theorem rm1_14 (l : Launch) (Z : State) (a0 : Array Value) (hw : ∀ d ∈ tables_1, d.before a0 Z = true) (ar : Addr) (h0 : Heap) (n0 : Nat) (Z0 : n0 ≤ h0.size) (y0 : Int64) (y1 : Int64) (y2 : Int64) (y3 : Int64) (y4 : Int64) (g_ar : n0 ≤ ar) (V_ar : AJ Z h0 ar [y0, y1, y2, y3, y4]) :
    Con l Z (⟨"com/example/facet/facet/regex/MinQueuePollPinLaw", "cs", "([JII)V"⟩ : MethodName) method_2_code 5 none ({ frames := 0, cells := 0, slots := 0, locals := 0 } : Room) #[(.ref ar), (.int (1 : Int32)), (.int (4 : Int32))] h0 (fun r h L => r = none ∧ Fr n0 L ∧ Keep h0 h [ar] ∧ ∃ u v : Int64, own_P y1 y4 u v ∧ AJ Z h ar [y0, u, y2, y3, v]) := by
  refine Con.of (plainFor_of_name (by first | (simp [plainName, overriddenIn]; done) | decide +kernel)) ?_
  intro p e s m below meth c T X hx hZ hby hml hown hnm hret hlk e0
  rw [ef_1]
  have N0 := Fr.nil n0
  have KP0 := Keep.refl h0 [ar]
  show Go p e below s 0 0 (fun r h L => r = none ∧ Fr n0 L ∧ Keep h0 h [ar] ∧ ∃ u v : Int64, own_P y1 y4 u v ∧ AJ Z h ar [y0, u, y2, y3, v]) T (mkF m 0 #[.val (.ref ar), .val (.int (1 : Int32)), .val (.int (4 : Int32)), .unset, .unset] [])
  refine w_aloadN X hx (hb hby d1_0) (pc' := 1) rfl rfl rfl ?_
  refine w_iloadN X hx (hb hby d1_1) (pc' := 2) rfl rfl ?_
  refine w_laload X hx hZ e0 V_ar (v := y4) (by decide) rfl (hb hby d1_2) (pc' := 3) rfl ?_
  refine w_aloadN X hx (hb hby d1_3) (pc' := 4) rfl rfl rfl ?_
  refine w_iloadN X hx (hb hby d1_4) (pc' := 5) rfl rfl ?_
  refine w_laload X hx hZ e0 V_ar (v := y1) (by decide) rfl (hb hby d1_5) (pc' := 6) rfl ?_
  refine w_lcmp X hx (hb hby d1_6) (pc' := 7) rfl ?_
  refine w_ifL_ge X hx (hb hby d1_7) (pf := 10) (pt := 24) rfl (by decide) (by decide) (fun hc7 => ?_) (fun hc7 => ?_)
  · exact w_retV X hx hret hlk (hb hby d1_24) (by decide) (by decide) (by rw [e0]; exact ⟨rfl, N0, KP0, y1, y4, ⟨by rw [Int64.lt_iff_toInt_lt] at hc7; omega, Or.inl ⟨rfl, rfl⟩⟩, V_ar⟩)
  · refine w_aloadN X hx (hb hby d1_10) (pc' := 11) rfl rfl rfl ?_
    refine w_iloadN X hx (hb hby d1_11) (pc' := 12) rfl rfl ?_
    refine w_laload X hx hZ e0 V_ar (v := y1) (by decide) rfl (hb hby d1_12) (pc' := 13) rfl ?_
    refine w_lstoreN (Ls' := #[.val (.ref ar), .val (.int (1 : Int32)), .val (.int (4 : Int32)), .val (.long y1), .second]) X hx (hb hby d1_13) (pc' := 14) rfl rfl ?_
    refine w_aloadN X hx (hb hby d1_14) (pc' := 15) rfl rfl rfl ?_
    refine w_iloadN X hx (hb hby d1_15) (pc' := 16) rfl rfl ?_
    refine w_aloadN X hx (hb hby d1_16) (pc' := 17) rfl rfl rfl ?_
    refine w_iloadN X hx (hb hby d1_17) (pc' := 18) rfl rfl ?_
    refine w_laload X hx hZ e0 V_ar (v := y4) (by decide) rfl (hb hby d1_18) (pc' := 19) rfl ?_
    refine w_lastore X hx hZ e0 V_ar (by decide) (by show _ < 5; decide) (hb hby d1_19) (pc' := 20) rfl (fun T17 h17 X17 e17 W17 V17 => ?_)
    have V17 : AJ Z h17 ar [y0, y4, y2, y3, y4] := V17
    have KP17 := KP0.wr W17 (Or.inl (by simp))
    have N17 := Fr.snoc X17 N0 g_ar
    have zn17 : n0 ≤ h17.size := by rw [W17.size]; exact Z0
    refine w_aloadN X17 hx (hb hby d1_20) (pc' := 21) rfl rfl rfl ?_
    refine w_iloadN X17 hx (hb hby d1_21) (pc' := 22) rfl rfl ?_
    refine w_lloadN X17 hx (hb hby d1_22) (pc' := 23) rfl rfl ?_
    refine w_lastore X17 hx hZ e17 V17 (by decide) (by show _ < 5; decide) (hb hby d1_23) (pc' := 24) rfl (fun T18 h18 X18 e18 W18 V18 => ?_)
    have V18 : AJ Z h18 ar [y0, y4, y2, y3, y1] := V18
    have KP18 := KP17.wr W18 (Or.inl (by simp))
    have N18 := Fr.snoc X18 N17 g_ar
    have zn18 : n0 ≤ h18.size := by rw [W18.size]; exact zn17
    exact w_retV X18 hx hret hlk (hb hby d1_24) (by decide) (by decide) (by rw [e18]; exact ⟨rfl, N18, KP18, y4, y1, ⟨by rw [Int64.lt_iff_toInt_lt] at hc7; omega, Or.inr ⟨rfl, rfl⟩⟩, V18⟩)
set_option maxRecDepth 65536 in
set_option maxHeartbeats 40000000 in
theorem rm1_13 (l : Launch) (Z : State) (a0 : Array Value) (hw : ∀ d ∈ tables_1, d.before a0 Z = true) (ar : Addr) (h0 : Heap) (n0 : Nat) (Z0 : n0 ≤ h0.size) (y0 : Int64) (y1 : Int64) (y2 : Int64) (y3 : Int64) (y4 : Int64) (g_ar : n0 ≤ ar) (V_ar : AJ Z h0 ar [y0, y1, y2, y3, y4]) :
    Con l Z (⟨"com/example/facet/facet/regex/MinQueuePollPinLaw", "cs", "([JII)V"⟩ : MethodName) method_2_code 5 none ({ frames := 0, cells := 0, slots := 0, locals := 0 } : Room) #[(.ref ar), (.int (1 : Int32)), (.int (3 : Int32))] h0 (fun r h L => r = none ∧ Fr n0 L ∧ Keep h0 h [ar] ∧ ∃ u v : Int64, own_P y1 y3 u v ∧ AJ Z h ar [y0, u, y2, v, y4]) := by
  refine Con.of (plainFor_of_name (by first | (simp [plainName, overriddenIn]; done) | decide +kernel)) ?_
  intro p e s m below meth c T X hx hZ hby hml hown hnm hret hlk e0
  rw [ef_1]
  have N0 := Fr.nil n0
  have KP0 := Keep.refl h0 [ar]
  show Go p e below s 0 0 (fun r h L => r = none ∧ Fr n0 L ∧ Keep h0 h [ar] ∧ ∃ u v : Int64, own_P y1 y3 u v ∧ AJ Z h ar [y0, u, y2, v, y4]) T (mkF m 0 #[.val (.ref ar), .val (.int (1 : Int32)), .val (.int (3 : Int32)), .unset, .unset] [])
  refine w_aloadN X hx (hb hby d1_0) (pc' := 1) rfl rfl rfl ?_
  refine w_iloadN X hx (hb hby d1_1) (pc' := 2) rfl rfl ?_
  refine w_laload X hx hZ e0 V_ar (v := y3) (by decide) rfl (hb hby d1_2) (pc' := 3) rfl ?_
  refine w_aloadN X hx (hb hby d1_3) (pc' := 4) rfl rfl rfl ?_
  refine w_iloadN X hx (hb hby d1_4) (pc' := 5) rfl rfl ?_
  refine w_laload X hx hZ e0 V_ar (v := y1) (by decide) rfl (hb hby d1_5) (pc' := 6) rfl ?_
  refine w_lcmp X hx (hb hby d1_6) (pc' := 7) rfl ?_
  refine w_ifL_ge X hx (hb hby d1_7) (pf := 10) (pt := 24) rfl (by decide) (by decide) (fun hc7 => ?_) (fun hc7 => ?_)
  · exact w_retV X hx hret hlk (hb hby d1_24) (by decide) (by decide) (by rw [e0]; exact ⟨rfl, N0, KP0, y1, y3, ⟨by rw [Int64.lt_iff_toInt_lt] at hc7; omega, Or.inl ⟨rfl, rfl⟩⟩, V_ar⟩)
  · refine w_aloadN X hx (hb hby d1_10) (pc' := 11) rfl rfl rfl ?_
    refine w_iloadN X hx (hb hby d1_11) (pc' := 12) rfl rfl ?_
    refine w_laload X hx hZ e0 V_ar (v := y1) (by decide) rfl (hb hby d1_12) (pc' := 13) rfl ?_
    refine w_lstoreN (Ls' := #[.val (.ref ar), .val (.int (1 : Int32)), .val (.int (3 : Int32)), .val (.long y1), .second]) X hx (hb hby d1_13) (pc' := 14) rfl rfl ?_
    refine w_aloadN X hx (hb hby d1_14) (pc' := 15) rfl rfl rfl ?_
    refine w_iloadN X hx (hb hby d1_15) (pc' := 16) rfl rfl ?_
    refine w_aloadN X hx (hb hby d1_16) (pc' := 17) rfl rfl rfl ?_
    refine w_iloadN X hx (hb hby d1_17) (pc' := 18) rfl rfl ?_
    refine w_laload X hx hZ e0 V_ar (v := y3) (by decide) rfl (hb hby d1_18) (pc' := 19) rfl ?_
    refine w_lastore X hx hZ e0 V_ar (by decide) (by show _ < 5; decide) (hb hby d1_19) (pc' := 20) rfl (fun T19 h19 X19 e19 W19 V19 => ?_)
    have V19 : AJ Z h19 ar [y0, y3, y2, y3, y4] := V19
    have KP19 := KP0.wr W19 (Or.inl (by simp))
    have N19 := Fr.snoc X19 N0 g_ar
    have zn19 : n0 ≤ h19.size := by rw [W19.size]; exact Z0
    refine w_aloadN X19 hx (hb hby d1_20) (pc' := 21) rfl rfl rfl ?_
    refine w_iloadN X19 hx (hb hby d1_21) (pc' := 22) rfl rfl ?_
    refine w_lloadN X19 hx (hb hby d1_22) (pc' := 23) rfl rfl ?_
    refine w_lastore X19 hx hZ e19 V19 (by decide) (by show _ < 5; decide) (hb hby d1_23) (pc' := 24) rfl (fun T20 h20 X20 e20 W20 V20 => ?_)
    have V20 : AJ Z h20 ar [y0, y3, y2, y1, y4] := V20
    have KP20 := KP19.wr W20 (Or.inl (by simp))
    have N20 := Fr.snoc X20 N19 g_ar
    have zn20 : n0 ≤ h20.size := by rw [W20.size]; exact zn19
    exact w_retV X20 hx hret hlk (hb hby d1_24) (by decide) (by decide) (by rw [e20]; exact ⟨rfl, N20, KP20, y3, y1, ⟨by rw [Int64.lt_iff_toInt_lt] at hc7; omega, Or.inr ⟨rfl, rfl⟩⟩, V20⟩)
set_option maxRecDepth 65536 in
set_option maxHeartbeats 40000000 in
theorem rm1_12 (l : Launch) (Z : State) (a0 : Array Value) (hw : ∀ d ∈ tables_1, d.before a0 Z = true) (ar : Addr) (h0 : Heap) (n0 : Nat) (Z0 : n0 ≤ h0.size) (y0 : Int64) (y1 : Int64) (y2 : Int64) (y3 : Int64) (y4 : Int64) (g_ar : n0 ≤ ar) (V_ar : AJ Z h0 ar [y0, y1, y2, y3, y4]) :
    Con l Z (⟨"com/example/facet/facet/regex/MinQueuePollPinLaw", "cs", "([JII)V"⟩ : MethodName) method_2_code 5 none ({ frames := 0, cells := 0, slots := 0, locals := 0 } : Room) #[(.ref ar), (.int (1 : Int32)), (.int (2 : Int32))] h0 (fun r h L => r = none ∧ Fr n0 L ∧ Keep h0 h [ar] ∧ ∃ u v : Int64, own_P y1 y2 u v ∧ AJ Z h ar [y0, u, v, y3, y4]) := by
  refine Con.of (plainFor_of_name (by first | (simp [plainName, overriddenIn]; done) | decide +kernel)) ?_
  intro p e s m below meth c T X hx hZ hby hml hown hnm hret hlk e0
  rw [ef_1]
  have N0 := Fr.nil n0
  have KP0 := Keep.refl h0 [ar]
  show Go p e below s 0 0 (fun r h L => r = none ∧ Fr n0 L ∧ Keep h0 h [ar] ∧ ∃ u v : Int64, own_P y1 y2 u v ∧ AJ Z h ar [y0, u, v, y3, y4]) T (mkF m 0 #[.val (.ref ar), .val (.int (1 : Int32)), .val (.int (2 : Int32)), .unset, .unset] [])
  refine w_aloadN X hx (hb hby d1_0) (pc' := 1) rfl rfl rfl ?_
  refine w_iloadN X hx (hb hby d1_1) (pc' := 2) rfl rfl ?_
  refine w_laload X hx hZ e0 V_ar (v := y2) (by decide) rfl (hb hby d1_2) (pc' := 3) rfl ?_
  refine w_aloadN X hx (hb hby d1_3) (pc' := 4) rfl rfl rfl ?_
  refine w_iloadN X hx (hb hby d1_4) (pc' := 5) rfl rfl ?_
  refine w_laload X hx hZ e0 V_ar (v := y1) (by decide) rfl (hb hby d1_5) (pc' := 6) rfl ?_
  refine w_lcmp X hx (hb hby d1_6) (pc' := 7) rfl ?_
  refine w_ifL_ge X hx (hb hby d1_7) (pf := 10) (pt := 24) rfl (by decide) (by decide) (fun hc7 => ?_) (fun hc7 => ?_)
  · exact w_retV X hx hret hlk (hb hby d1_24) (by decide) (by decide) (by rw [e0]; exact ⟨rfl, N0, KP0, y1, y2, ⟨by rw [Int64.lt_iff_toInt_lt] at hc7; omega, Or.inl ⟨rfl, rfl⟩⟩, V_ar⟩)
  · refine w_aloadN X hx (hb hby d1_10) (pc' := 11) rfl rfl rfl ?_
    refine w_iloadN X hx (hb hby d1_11) (pc' := 12) rfl rfl ?_
    refine w_laload X hx hZ e0 V_ar (v := y1) (by decide) rfl (hb hby d1_12) (pc' := 13) rfl ?_
    refine w_lstoreN (Ls' := #[.val (.ref ar), .val (.int (1 : Int32)), .val (.int (2 : Int32)), .val (.long y1), .second]) X hx (hb hby d1_13) (pc' := 14) rfl rfl ?_
    refine w_aloadN X hx (hb hby d1_14) (pc' := 15) rfl rfl rfl ?_
    refine w_iloadN X hx (hb hby d1_15) (pc' := 16) rfl rfl ?_
    refine w_aloadN X hx (hb hby d1_16) (pc' := 17) rfl rfl rfl ?_
    refine w_iloadN X hx (hb hby d1_17) (pc' := 18) rfl rfl ?_
    refine w_laload X hx hZ e0 V_ar (v := y2) (by decide) rfl (hb hby d1_18) (pc' := 19) rfl ?_
    refine w_lastore X hx hZ e0 V_ar (by decide) (by show _ < 5; decide) (hb hby d1_19) (pc' := 20) rfl (fun T21 h21 X21 e21 W21 V21 => ?_)
    have V21 : AJ Z h21 ar [y0, y2, y2, y3, y4] := V21
    have KP21 := KP0.wr W21 (Or.inl (by simp))
    have N21 := Fr.snoc X21 N0 g_ar
    have zn21 : n0 ≤ h21.size := by rw [W21.size]; exact Z0
    refine w_aloadN X21 hx (hb hby d1_20) (pc' := 21) rfl rfl rfl ?_
    refine w_iloadN X21 hx (hb hby d1_21) (pc' := 22) rfl rfl ?_
    refine w_lloadN X21 hx (hb hby d1_22) (pc' := 23) rfl rfl ?_
    refine w_lastore X21 hx hZ e21 V21 (by decide) (by show _ < 5; decide) (hb hby d1_23) (pc' := 24) rfl (fun T22 h22 X22 e22 W22 V22 => ?_)
    have V22 : AJ Z h22 ar [y0, y2, y1, y3, y4] := V22
    have KP22 := KP21.wr W22 (Or.inl (by simp))
    have N22 := Fr.snoc X22 N21 g_ar
    have zn22 : n0 ≤ h22.size := by rw [W22.size]; exact zn21
    exact w_retV X22 hx hret hlk (hb hby d1_24) (by decide) (by decide) (by rw [e22]; exact ⟨rfl, N22, KP22, y2, y1, ⟨by rw [Int64.lt_iff_toInt_lt] at hc7; omega, Or.inr ⟨rfl, rfl⟩⟩, V22⟩)
theorem d2_0 : decode prog_33_method_1_code 0 = .ok (.aload_n 0, 1) := by decide +kernel
theorem d2_1 : decode prog_33_method_1_code 1 = .ok (.invokespecial 1, 3) := by decide +kernel
theorem d2_4 : decode prog_33_method_1_code 4 = .ok (.aload_n 0, 1) := by decide +kernel
theorem d2_5 : decode prog_33_method_1_code 5 = .ok (.iload_n 1, 1) := by decide +kernel
theorem d2_6 : decode prog_33_method_1_code 6 = .ok (.iconst 1, 1) := by decide +kernel
theorem d2_7 : decode prog_33_method_1_code 7 = .ok (.invokestatic 7, 3) := by decide +kernel
theorem d2_10 : decode prog_33_method_1_code 10 = .ok (.newarray .long, 2) := by decide +kernel
theorem d2_12 : decode prog_33_method_1_code 12 = .ok (.putfield 13, 3) := by decide +kernel
theorem d2_15 : decode prog_33_method_1_code 15 = .ok (.return_, 1) := by decide +kernel
theorem ef_2 (m : MethodId) (ob : Addr) (x1 : Int32) : entryFrame m #[(.ref ob), (.int x1)] 2 = mkF m 0 #[.val (.ref ob), .val (.int x1)] [] := by first | (simp [entryFrame, mkF, argsToLocals, Value.category]; done) | rfl
set_option maxRecDepth 65536 in
set_option maxHeartbeats 40000000 in
theorem rm2 (l : Launch) (Z : State) (a0 : Array Value) (hw : ∀ d ∈ tables_1, d.before a0 Z = true) (ob : Addr) (x1 : Int32) (h0 : Heap) (n0 : Nat) (Z0 : n0 ≤ h0.size) (E_ob : Exa Z h0 ob "com/example/facet/facet/regex/MinQueue") (g_ob : n0 ≤ ob) (F_heap : Fld Z h0 ob "com/example/facet/facet/regex/MinQueue" "heap" "[J" .null) (F_size : Fld Z h0 ob "com/example/facet/facet/regex/MinQueue" "size" "I" (.int (0 : Int32))) (hx1 : 0 ≤ x1.toInt ∧ x1.toInt ≤ 7) :
    Con l Z (⟨"com/example/facet/facet/regex/MinQueue", "<init>", "(I)V"⟩ : MethodName) prog_33_method_1_code 2 none ({ frames := 1, cells := 1, slots := 7, locals := 40 } : Room) #[(.ref ob), (.int x1)] h0 (fun v h L => v = none ∧ Fr n0 L ∧ Keep h0 h [ob] ∧ ∃ (b : Addr) (rs : List Int64), h0.size ≤ b ∧ Fld Z h ob "com/example/facet/facet/regex/MinQueue" "heap" "[J" (.ref b) ∧ Fld Z h ob "com/example/facet/facet/regex/MinQueue" "size" "I" (.int (0 : Int32)) ∧ AJ Z h b rs ∧ 1 ≤ rs.length ∧ rs.length ≤ 8) := by
  refine Con.of (plainFor_of_name (by first | (simp [plainName, overriddenIn]; done) | decide +kernel)) ?_
  intro p e s m below meth c T X hx hZ hby hml hown hnm hret hlk e0
  rw [ef_2]
  have N0 := Fr.nil n0
  have KP0 := Keep.refl h0 [ob]
  show Go p e below s 1 7 (fun v h L => v = none ∧ Fr n0 L ∧ Keep h0 h [ob] ∧ ∃ (b : Addr) (rs : List Int64), h0.size ≤ b ∧ Fld Z h ob "com/example/facet/facet/regex/MinQueue" "heap" "[J" (.ref b) ∧ Fld Z h ob "com/example/facet/facet/regex/MinQueue" "size" "I" (.int (0 : Int32)) ∧ AJ Z h b rs ∧ 1 ≤ rs.length ∧ rs.length ≤ 8) T (mkF m 0 #[.val (.ref ob), .val (.int x1)] [])
  refine w_aloadN X hx (hb hby d2_0) (pc' := 1) rfl rfl rfl ?_
  refine w_initO X hx hZ hown e0 (hw _ (List.mem_of_getElem? (i := 12) rfl)) (hw _ (List.mem_of_getElem? (i := 13) rfl)) (hw _ (List.mem_of_getElem? (i := 14) rfl)) (by rw [hml]; rfl) (hb hby d2_1) (by decide) (W := 0) (by decide) (by decide) (pc' := 4) rfl (fun T23 X23 e23 => ?_)
  refine w_aloadN X23 hx (hb hby d2_4) (pc' := 5) rfl rfl rfl ?_
  refine w_iloadN X23 hx (hb hby d2_5) (pc' := 6) rfl rfl ?_
  refine w_iconst (v := 1) X23 hx (hb hby d2_6) (pc' := 7) rfl rfl ?_
  refine w_callS (argsL := [(.int x1), (.int (1 : Int32))]) (rest := [(.ref ob)]) X23 hx hZ hown e23 (rm4 l Z a0 hw x1 (1 : Int32) h0 n0) (hw _ (List.mem_of_getElem? (i := 15) rfl)) (hw _ (List.mem_of_getElem? (i := 16) rfl)) (hw _ (List.mem_of_getElem? (i := 17) rfl)) (hw _ (List.mem_of_getElem? (i := 18) rfl)) (by decide) (by decide) (W := 1) (by decide) (by decide) (by decide) (by rw [hml]; rfl) (lenOf pd_0 rfl) (Nat.le_refl _) rfl (hb hby d2_7) (pc' := 10) rfl (fun T24 L24 v24 X24 hQ24 => ?_)
  obtain ⟨rfl, N24q, e24⟩ := hQ24
  have N24 := Fr.app N0 N24q
  have X24 : Stand p l e ({ frames := 1, cells := 1, slots := 7, locals := 40 } : Room) s m _ below meth c T24 _ 0 0 := X24
  show Go p e below s 1 7 (fun v h L => v = none ∧ Fr n0 L ∧ Keep h0 h [ob] ∧ ∃ (b : Addr) (rs : List Int64), h0.size ≤ b ∧ Fld Z h ob "com/example/facet/facet/regex/MinQueue" "heap" "[J" (.ref b) ∧ Fld Z h ob "com/example/facet/facet/regex/MinQueue" "size" "I" (.int (0 : Int32)) ∧ AJ Z h b rs ∧ 1 ≤ rs.length ∧ rs.length ≤ 8) T24 (mkF m 10 #[.val (.ref ob), .val (.int x1)] [(.int (K4_0 x1 (1 : Int32))), (.ref ob)])
  refine w_newJ X24 hx hZ (cap := 7) e24 (hw _ (List.mem_of_getElem? (i := 1) rfl)) (by have := own_mc hx1; rw [Int32.lt_iff_toInt_lt, own_zero]; omega) (by have := own_mc hx1; show (K4_0 x1 (1 : Int32)).toInt.toNat ≤ 7; omega) (by decide) (by decide) (by decide) (hb hby d2_10) (pc' := 12) rfl (fun T25 h25 b25 X25 e25 E25 q25 V25 => ?_)
  have g_b25 : n0 ≤ b25 := by rw [q25]; exact Z0
  have ne_ob_b25 : ob ≠ b25 := by rw [q25]; exact Nat.ne_of_lt E_ob.lt
  have sz_b25 : h0.size ≤ b25 := by rw [q25]; exact KP0.1
  have KP25 := KP0.ext E25
  have zn25 : n0 ≤ h25.size := Nat.le_trans Z0 E25.1
  have f26 := F_heap.ext E25
  have f27 := E_ob.ext E25
  refine w_putF X25 hx hZ hown e25 f26 f27 (hw _ (List.mem_of_getElem? (i := 19) rfl)) (Or.inl (hw _ (List.mem_of_getElem? (i := 20) rfl))) (hw _ (List.mem_of_getElem? (i := 7) rfl)) (ty := (.array .long)) (by decide) rfl rfl (hb hby d2_12) (pc' := 15) rfl (fun T28 h28 X28 e28 W28 => ?_)
  have F28 := f26.same W28
  have KP28 := KP25.wr W28 (Or.inl (by simp))
  have N28 := Fr.snoc X28 N24 g_ob
  have zn28 : n0 ≤ h28.size := by rw [W28.size]; exact zn25
  have f29 := F_size.ext E25
  have f30 := f29.other W28 (Or.inr (slot_ne (Or.inl (hw _ (List.mem_of_getElem? (i := 31) rfl))) (Or.inl (hw _ (List.mem_of_getElem? (i := 20) rfl))) (by decide) (t := .int) (t' := (.array .long)) (by decide) (by decide)))
  have f31 := V25.other W28 (Ne.symm ne_ob_b25)
  have hm := own_mc hx1
  have hlr : (List.replicate (K4_0 x1 (1 : Int32)).toNatClampNeg (0 : Int64)).length = (K4_0 x1 (1 : Int32)).toInt.toNat := by rw [List.length_replicate]; rfl
  exact w_retV X28 hx hret hlk (hb hby d2_15) (by decide) (by decide) (by rw [e28]; exact ⟨rfl, N28, KP28, b25, _, sz_b25, F28, f30, f31, by omega, by omega⟩)
theorem d6_0 : decode prog_33_method_3_code 0 = .ok (.aload_n 0, 1) := by decide +kernel
theorem d6_1 : decode prog_33_method_3_code 1 = .ok (.getfield 19, 3) := by decide +kernel
theorem d6_4 : decode prog_33_method_3_code 4 = .ok (.aload_n 0, 1) := by decide +kernel
theorem d6_5 : decode prog_33_method_3_code 5 = .ok (.getfield 13, 3) := by decide +kernel
theorem d6_8 : decode prog_33_method_3_code 8 = .ok (.arraylength, 1) := by decide +kernel
theorem d6_9 : decode prog_33_method_3_code 9 = .ok (.if_icmp .ne 20, 3) := by decide +kernel
theorem d6_12 : decode prog_33_method_3_code 12 = .ok (.aload_n 0, 1) := by decide +kernel
theorem d6_13 : decode prog_33_method_3_code 13 = .ok (.aload_n 0, 1) := by decide +kernel
theorem d6_14 : decode prog_33_method_3_code 14 = .ok (.getfield 13, 3) := by decide +kernel
theorem d6_17 : decode prog_33_method_3_code 17 = .ok (.iconst 2, 1) := by decide +kernel
theorem d6_18 : decode prog_33_method_3_code 18 = .ok (.aload_n 0, 1) := by decide +kernel
theorem d6_19 : decode prog_33_method_3_code 19 = .ok (.getfield 19, 3) := by decide +kernel
theorem d6_22 : decode prog_33_method_3_code 22 = .ok (.imul, 1) := by decide +kernel
theorem d6_23 : decode prog_33_method_3_code 23 = .ok (.invokestatic 23, 3) := by decide +kernel
theorem d6_26 : decode prog_33_method_3_code 26 = .ok (.putfield 13, 3) := by decide +kernel
theorem d6_29 : decode prog_33_method_3_code 29 = .ok (.lload_n 1, 1) := by decide +kernel
theorem d6_30 : decode prog_33_method_3_code 30 = .ok (.bipush 32, 2) := by decide +kernel
theorem d6_32 : decode prog_33_method_3_code 32 = .ok (.lshl, 1) := by decide +kernel
theorem d6_33 : decode prog_33_method_3_code 33 = .ok (.iload_n 3, 1) := by decide +kernel
theorem d6_34 : decode prog_33_method_3_code 34 = .ok (.i2l, 1) := by decide +kernel
theorem d6_35 : decode prog_33_method_3_code 35 = .ok (.lor, 1) := by decide +kernel
theorem d6_36 : decode prog_33_method_3_code 36 = .ok (.lstore 4, 2) := by decide +kernel
theorem d6_38 : decode prog_33_method_3_code 38 = .ok (.aload_n 0, 1) := by decide +kernel
theorem d6_39 : decode prog_33_method_3_code 39 = .ok (.getfield 19, 3) := by decide +kernel
theorem d6_42 : decode prog_33_method_3_code 42 = .ok (.istore 6, 2) := by decide +kernel
theorem d6_44 : decode prog_33_method_3_code 44 = .ok (.aload_n 0, 1) := by decide +kernel
theorem d6_45 : decode prog_33_method_3_code 45 = .ok (.dup, 1) := by decide +kernel
theorem d6_46 : decode prog_33_method_3_code 46 = .ok (.getfield 19, 3) := by decide +kernel
theorem d6_49 : decode prog_33_method_3_code 49 = .ok (.iconst 1, 1) := by decide +kernel
theorem d6_50 : decode prog_33_method_3_code 50 = .ok (.iadd, 1) := by decide +kernel
theorem d6_51 : decode prog_33_method_3_code 51 = .ok (.putfield 19, 3) := by decide +kernel
theorem d6_54 : decode prog_33_method_3_code 54 = .ok (.iload 6, 2) := by decide +kernel
theorem d6_56 : decode prog_33_method_3_code 56 = .ok (.ifCond .le 49, 3) := by decide +kernel
theorem d6_59 : decode prog_33_method_3_code 59 = .ok (.aload_n 0, 1) := by decide +kernel
theorem d6_60 : decode prog_33_method_3_code 60 = .ok (.getfield 13, 3) := by decide +kernel
theorem d6_63 : decode prog_33_method_3_code 63 = .ok (.iload 6, 2) := by decide +kernel
theorem d6_65 : decode prog_33_method_3_code 65 = .ok (.iconst 1, 1) := by decide +kernel
theorem d6_66 : decode prog_33_method_3_code 66 = .ok (.isub, 1) := by decide +kernel
theorem d6_67 : decode prog_33_method_3_code 67 = .ok (.iconst 1, 1) := by decide +kernel
theorem d6_68 : decode prog_33_method_3_code 68 = .ok (.iushr, 1) := by decide +kernel
theorem d6_69 : decode prog_33_method_3_code 69 = .ok (.laload, 1) := by decide +kernel
theorem d6_70 : decode prog_33_method_3_code 70 = .ok (.lload 4, 2) := by decide +kernel
theorem d6_72 : decode prog_33_method_3_code 72 = .ok (.lcmp, 1) := by decide +kernel
theorem d6_73 : decode prog_33_method_3_code 73 = .ok (.ifCond .le 32, 3) := by decide +kernel
theorem d6_76 : decode prog_33_method_3_code 76 = .ok (.aload_n 0, 1) := by decide +kernel
theorem d6_77 : decode prog_33_method_3_code 77 = .ok (.getfield 13, 3) := by decide +kernel
theorem d6_80 : decode prog_33_method_3_code 80 = .ok (.iload 6, 2) := by decide +kernel
theorem d6_82 : decode prog_33_method_3_code 82 = .ok (.aload_n 0, 1) := by decide +kernel
theorem d6_83 : decode prog_33_method_3_code 83 = .ok (.getfield 13, 3) := by decide +kernel
theorem d6_86 : decode prog_33_method_3_code 86 = .ok (.iload 6, 2) := by decide +kernel
theorem d6_88 : decode prog_33_method_3_code 88 = .ok (.iconst 1, 1) := by decide +kernel
theorem d6_89 : decode prog_33_method_3_code 89 = .ok (.isub, 1) := by decide +kernel
theorem d6_90 : decode prog_33_method_3_code 90 = .ok (.iconst 1, 1) := by decide +kernel
theorem d6_91 : decode prog_33_method_3_code 91 = .ok (.iushr, 1) := by decide +kernel
theorem d6_92 : decode prog_33_method_3_code 92 = .ok (.laload, 1) := by decide +kernel
theorem d6_93 : decode prog_33_method_3_code 93 = .ok (.lastore, 1) := by decide +kernel
theorem d6_94 : decode prog_33_method_3_code 94 = .ok (.iload 6, 2) := by decide +kernel
theorem d6_96 : decode prog_33_method_3_code 96 = .ok (.iconst 1, 1) := by decide +kernel
theorem d6_97 : decode prog_33_method_3_code 97 = .ok (.isub, 1) := by decide +kernel
theorem d6_98 : decode prog_33_method_3_code 98 = .ok (.iconst 1, 1) := by decide +kernel
theorem d6_99 : decode prog_33_method_3_code 99 = .ok (.iushr, 1) := by decide +kernel
theorem d6_100 : decode prog_33_method_3_code 100 = .ok (.istore 6, 2) := by decide +kernel
theorem d6_102 : decode prog_33_method_3_code 102 = .ok (.goto (-48), 3) := by decide +kernel
theorem d6_105 : decode prog_33_method_3_code 105 = .ok (.aload_n 0, 1) := by decide +kernel
theorem d6_106 : decode prog_33_method_3_code 106 = .ok (.getfield 13, 3) := by decide +kernel
theorem d6_109 : decode prog_33_method_3_code 109 = .ok (.iload 6, 2) := by decide +kernel
theorem d6_111 : decode prog_33_method_3_code 111 = .ok (.lload 4, 2) := by decide +kernel
theorem d6_113 : decode prog_33_method_3_code 113 = .ok (.lastore, 1) := by decide +kernel
theorem d6_114 : decode prog_33_method_3_code 114 = .ok (.return_, 1) := by decide +kernel
theorem ef_6 (m : MethodId) (ob : Addr) (x1 : Int64) (x2 : Int32) : entryFrame m #[(.ref ob), (.long x1), (.int x2)] 7 = mkF m 0 #[.val (.ref ob), .val (.long x1), .second, .val (.int x2), .unset, .unset, .unset] [] := by first | (simp [entryFrame, mkF, argsToLocals, Value.category]; done) | rfl
set_option maxRecDepth 65536 in
set_option maxHeartbeats 40000000 in
theorem rm6r_0 (l : Launch) (Z : State) (a0 : Array Value) (hw : ∀ d ∈ tables_1, d.before a0 Z = true) (ob : Addr) (x1 : Int64) (x2 : Int32) (h0 : Heap) (n0 : Nat) (Z0 : n0 ≤ h0.size) (hp : Addr) (ev : Int64)  (r : Int64) (rest : List Int64) (E_ob : Exa Z h0 ob "com/example/facet/facet/regex/MinQueue") (g_ob : n0 ≤ ob) (g_hp : n0 ≤ hp) (F_heap : Fld Z h0 ob "com/example/facet/facet/regex/MinQueue" "heap" "[J" (.ref hp)) (F_size : Fld Z h0 ob "com/example/facet/facet/regex/MinQueue" "size" "I" (.int (0 : Int32))) (V_hp : AJ Z h0 hp (r :: rest)) (nho : hp ≠ ob) (hO : True) (hev : ((x1 <<< ((32 : Int32) &&& 0x3f).toInt64) ||| x2.toInt64) = ev) (hrl : rest.length ≤ 7) :
    Con l Z (⟨"com/example/facet/facet/regex/MinQueue", "add", "(JI)V"⟩ : MethodName) prog_33_method_3_code 7 none ({ frames := 2, cells := 1, slots := 8, locals := 72 } : Room) #[(.ref ob), (.long x1), (.int x2)] h0 (fun v h L => v = none ∧ Fr n0 L ∧ Keep h0 h [ob, hp] ∧ ∃ (b : Addr) (k0 : Int64) (rs : List Int64), Fld Z h ob "com/example/facet/facet/regex/MinQueue" "heap" "[J" (.ref b) ∧ Fld Z h ob "com/example/facet/facet/regex/MinQueue" "size" "I" (.int (1 : Int32)) ∧ AJ Z h b (k0 :: rs) ∧ rs.length ≤ 7 ∧ (True) ∧ (∀ f : Int64 → Nat, f k0 = f ev) ∧ b ≠ ob ∧ (b = hp ∨ h0.size ≤ b)) := by
  refine Con.of (plainFor_of_name (by first | (simp [plainName, overriddenIn]; done) | decide +kernel)) ?_
  intro p e s m below meth c T X hx hZ hby hml hown hnm hret hlk e0
  rw [ef_6]
  have N0 := Fr.nil n0
  have KP0 := Keep.refl h0 [ob, hp]
  show Go p e below s 1 8 (fun v h L => v = none ∧ Fr n0 L ∧ Keep h0 h [ob, hp] ∧ ∃ (b : Addr) (k0 : Int64) (rs : List Int64), Fld Z h ob "com/example/facet/facet/regex/MinQueue" "heap" "[J" (.ref b) ∧ Fld Z h ob "com/example/facet/facet/regex/MinQueue" "size" "I" (.int (1 : Int32)) ∧ AJ Z h b (k0 :: rs) ∧ rs.length ≤ 7 ∧ (True) ∧ (∀ f : Int64 → Nat, f k0 = f ev) ∧ b ≠ ob ∧ (b = hp ∨ h0.size ≤ b)) T (mkF m 0 #[.val (.ref ob), .val (.long x1), .second, .val (.int x2), .unset, .unset, .unset] [])
  refine w_aloadN X hx (hb hby d6_0) (pc' := 1) rfl rfl rfl ?_
  refine w_getF X hx hZ hown e0 F_size (hw _ (List.mem_of_getElem? (i := 30) rfl)) (hb hby d6_1) (pc' := 4) rfl (fun T32 X32 e32 => ?_)
  refine w_aloadN X32 hx (hb hby d6_4) (pc' := 5) rfl rfl rfl ?_
  refine w_getF X32 hx hZ hown e32 F_heap (hw _ (List.mem_of_getElem? (i := 19) rfl)) (hb hby d6_5) (pc' := 8) rfl (fun T33 X33 e33 => ?_)
  refine w_alenJ X33 hx hZ e33 V_hp (n := ((rest.length + 1).toInt32)) rfl (hb hby d6_8) (pc' := 9) rfl ?_
  have hf9 : ¬ ((0 : Int32) = ((rest.length + 1).toInt32)) := fun q => absurd ((own_ieq (a := 0) (by decide) (by omega)).1 q) (by omega)
  refine w_icmp_ne X33 hx (hb hby d6_9) (pf := 12) (pt := 29) rfl (by decide) (by decide) (fun hc9 => ?_) (fun hc => absurd hc hf9)
  refine w_lloadN X33 hx (hb hby d6_29) (pc' := 30) rfl rfl ?_
  refine w_bipush (v := 32) X33 hx (hb hby d6_30) (pc' := 32) rfl rfl ?_
  refine w_lshl X33 hx (hb hby d6_32) (pc' := 33) rfl ?_
  refine w_iloadN X33 hx (hb hby d6_33) (pc' := 34) rfl rfl ?_
  refine w_i2l X33 hx (hb hby d6_34) (pc' := 35) rfl ?_
  refine w_lor X33 hx (hb hby d6_35) (pc' := 36) rfl ?_
  refine w_lstore (Ls' := #[.val (.ref ob), .val (.long x1), .second, .val (.int x2), .val (.long ((x1 <<< ((32 : Int32) &&& 0x3f).toInt64) ||| x2.toInt64)), .second, .unset]) X33 hx (hb hby d6_36) (pc' := 38) rfl rfl ?_
  rw [hev]
  refine w_aloadN X33 hx (hb hby d6_38) (pc' := 39) rfl rfl rfl ?_
  refine w_getF X33 hx hZ hown e33 F_size (hw _ (List.mem_of_getElem? (i := 30) rfl)) (hb hby d6_39) (pc' := 42) rfl (fun T34 X34 e34 => ?_)
  refine w_istore (Ls' := #[.val (.ref ob), .val (.long x1), .second, .val (.int x2), .val (.long ev), .second, .val (.int (0 : Int32))]) X34 hx (hb hby d6_42) (pc' := 44) rfl rfl ?_
  refine w_aloadN X34 hx (hb hby d6_44) (pc' := 45) rfl rfl rfl ?_
  refine w_dup X34 hx (hb hby d6_45) (pc' := 46) rfl rfl ?_
  refine w_getF X34 hx hZ hown e34 F_size (hw _ (List.mem_of_getElem? (i := 30) rfl)) (hb hby d6_46) (pc' := 49) rfl (fun T35 X35 e35 => ?_)
  refine w_iconst (v := 1) X35 hx (hb hby d6_49) (pc' := 50) rfl rfl ?_
  refine w_iadd X35 hx (hb hby d6_50) (pc' := 51) rfl ?_
  rw [show ((0 : Int32) + (1 : Int32)) = (1 : Int32) from by decide]
  refine w_putF X35 hx hZ hown e35 F_size E_ob (hw _ (List.mem_of_getElem? (i := 30) rfl)) (Or.inl (hw _ (List.mem_of_getElem? (i := 31) rfl))) (hw _ (List.mem_of_getElem? (i := 7) rfl)) (ty := .int) (by decide) rfl rfl (hb hby d6_51) (pc' := 54) rfl (fun T36 h36 X36 e36 W36 => ?_)
  have F36 := F_size.same W36
  have KP36 := KP0.wr W36 (Or.inl (by simp))
  have N36 := Fr.snoc X36 N0 g_ob
  have zn36 : n0 ≤ h36.size := by rw [W36.size]; exact Z0
  refine w_iload X36 hx (hb hby d6_54) (pc' := 56) rfl rfl ?_
  have hf56 : ¬ ((0 : Int32) < (0 : Int32)) := (by decide)
  refine w_if_le X36 hx (hb hby d6_56) (pf := 59) (pt := 105) rfl (by decide) (by decide) (fun hc56 => ?_) (fun hc => absurd hc hf56)
  refine w_aloadN X36 hx (hb hby d6_105) (pc' := 106) rfl rfl rfl ?_
  have f37 := F_heap.other W36 (Or.inr (slot_ne (Or.inl (hw _ (List.mem_of_getElem? (i := 20) rfl))) (Or.inl (hw _ (List.mem_of_getElem? (i := 31) rfl))) (by decide) (t := (.array .long)) (t' := .int) (by decide) (by decide)))
  refine w_getF X36 hx hZ hown e36 f37 (hw _ (List.mem_of_getElem? (i := 19) rfl)) (hb hby d6_106) (pc' := 109) rfl (fun T38 X38 e38 => ?_)
  refine w_iload X38 hx (hb hby d6_109) (pc' := 111) rfl rfl ?_
  refine w_lload X38 hx (hb hby d6_111) (pc' := 113) rfl rfl ?_
  have f39 := V_hp.other W36 nho
  refine w_lastore X38 hx hZ e38 f39 (by decide) (by show (0 : Nat) < rest.length + 1; omega) (hb hby d6_113) (pc' := 114) rfl (fun T40 h40 X40 e40 W40 V40 => ?_)
  have V40 : AJ Z h40 hp (ev :: rest) := V40
  have KP40 := KP36.wr W40 (Or.inl (by simp))
  have N40 := Fr.snoc X40 N36 g_hp
  have zn40 : n0 ≤ h40.size := by rw [W40.size]; exact zn36
  have f41 := f37.other W40 (Or.inl (Ne.symm nho))
  have f42 := F36.other W40 (Or.inl (Ne.symm nho))
  exact w_retV X40 hx hret hlk (hb hby d6_114) (by decide) (by decide) (by rw [e40]; exact ⟨rfl, N40, KP40, hp, ev, rest, f41, f42, V40, hrl, trivial, (fun f => by omega), nho, Or.inl rfl⟩)
theorem rm6_0 (l : Launch) (Z : State) (a0 : Array Value) (hw : ∀ d ∈ tables_1, d.before a0 Z = true) (ob : Addr) (x1 : Int64) (x2 : Int32) (h0 : Heap) (n0 : Nat) (Z0 : n0 ≤ h0.size) (hp : Addr) (ev : Int64)  (rest : List Int64) (E_ob : Exa Z h0 ob "com/example/facet/facet/regex/MinQueue") (g_ob : n0 ≤ ob) (g_hp : n0 ≤ hp) (F_heap : Fld Z h0 ob "com/example/facet/facet/regex/MinQueue" "heap" "[J" (.ref hp)) (F_size : Fld Z h0 ob "com/example/facet/facet/regex/MinQueue" "size" "I" (.int (0 : Int32))) (V_hp : AJ Z h0 hp (rest)) (nho : hp ≠ ob) (hO : True) (hev : ((x1 <<< ((32 : Int32) &&& 0x3f).toInt64) ||| x2.toInt64) = ev) (hrl : rest.length ≤ 8) (hr1 : 1 ≤ rest.length) :
    Con l Z (⟨"com/example/facet/facet/regex/MinQueue", "add", "(JI)V"⟩ : MethodName) prog_33_method_3_code 7 none ({ frames := 2, cells := 1, slots := 8, locals := 72 } : Room) #[.ref ob, .long x1, .int x2] h0 (fun v h L => v = none ∧ Fr n0 L ∧ Keep h0 h [ob, hp] ∧ ∃ (b : Addr) (k0 : Int64) (rs : List Int64), Fld Z h ob "com/example/facet/facet/regex/MinQueue" "heap" "[J" (.ref b) ∧ Fld Z h ob "com/example/facet/facet/regex/MinQueue" "size" "I" (.int (1 : Int32)) ∧ AJ Z h b (k0 :: rs) ∧ rs.length ≤ 7 ∧ (True) ∧ (∀ f : Int64 → Nat, f k0 = f ev) ∧ b ≠ ob ∧ (b = hp ∨ h0.size ≤ b)) := by
  cases rest with
  | nil => exact absurd hr1 (by simp)
  | cons r rest => exact rm6r_0 l Z a0 hw ob x1 x2 h0 n0 Z0 hp ev  r rest E_ob g_ob g_hp F_heap F_size V_hp nho hO hev (by simp at hrl; omega)
set_option maxRecDepth 65536 in
set_option maxHeartbeats 40000000 in
theorem rm6r_1 (l : Launch) (Z : State) (a0 : Array Value) (hw : ∀ d ∈ tables_1, d.before a0 Z = true) (ob : Addr) (x1 : Int64) (x2 : Int32) (h0 : Heap) (n0 : Nat) (Z0 : n0 ≤ h0.size) (hp : Addr) (ev : Int64) (y0 : Int64) (r : Int64) (rest : List Int64) (E_ob : Exa Z h0 ob "com/example/facet/facet/regex/MinQueue") (g_ob : n0 ≤ ob) (g_hp : n0 ≤ hp) (F_heap : Fld Z h0 ob "com/example/facet/facet/regex/MinQueue" "heap" "[J" (.ref hp)) (F_size : Fld Z h0 ob "com/example/facet/facet/regex/MinQueue" "size" "I" (.int (1 : Int32))) (V_hp : AJ Z h0 hp (y0 :: r :: rest)) (nho : hp ≠ ob) (hO : True) (hev : ((x1 <<< ((32 : Int32) &&& 0x3f).toInt64) ||| x2.toInt64) = ev) (hrl : rest.length ≤ 6) :
    Con l Z (⟨"com/example/facet/facet/regex/MinQueue", "add", "(JI)V"⟩ : MethodName) prog_33_method_3_code 7 none ({ frames := 2, cells := 1, slots := 8, locals := 72 } : Room) #[(.ref ob), (.long x1), (.int x2)] h0 (fun v h L => v = none ∧ Fr n0 L ∧ Keep h0 h [ob, hp] ∧ ∃ (b : Addr) (k0 k1 : Int64) (rs : List Int64), Fld Z h ob "com/example/facet/facet/regex/MinQueue" "heap" "[J" (.ref b) ∧ Fld Z h ob "com/example/facet/facet/regex/MinQueue" "size" "I" (.int (2 : Int32)) ∧ AJ Z h b (k0 :: k1 :: rs) ∧ rs.length ≤ 6 ∧ (k0.toInt ≤ k1.toInt) ∧ (∀ f : Int64 → Nat, f k0 + f k1 = f y0 + f ev) ∧ b ≠ ob ∧ (b = hp ∨ h0.size ≤ b)) := by
  refine Con.of (plainFor_of_name (by first | (simp [plainName, overriddenIn]; done) | decide +kernel)) ?_
  intro p e s m below meth c T X hx hZ hby hml hown hnm hret hlk e0
  rw [ef_6]
  have N0 := Fr.nil n0
  have KP0 := Keep.refl h0 [ob, hp]
  show Go p e below s 1 8 (fun v h L => v = none ∧ Fr n0 L ∧ Keep h0 h [ob, hp] ∧ ∃ (b : Addr) (k0 k1 : Int64) (rs : List Int64), Fld Z h ob "com/example/facet/facet/regex/MinQueue" "heap" "[J" (.ref b) ∧ Fld Z h ob "com/example/facet/facet/regex/MinQueue" "size" "I" (.int (2 : Int32)) ∧ AJ Z h b (k0 :: k1 :: rs) ∧ rs.length ≤ 6 ∧ (k0.toInt ≤ k1.toInt) ∧ (∀ f : Int64 → Nat, f k0 + f k1 = f y0 + f ev) ∧ b ≠ ob ∧ (b = hp ∨ h0.size ≤ b)) T (mkF m 0 #[.val (.ref ob), .val (.long x1), .second, .val (.int x2), .unset, .unset, .unset] [])
  refine w_aloadN X hx (hb hby d6_0) (pc' := 1) rfl rfl rfl ?_
  refine w_getF X hx hZ hown e0 F_size (hw _ (List.mem_of_getElem? (i := 30) rfl)) (hb hby d6_1) (pc' := 4) rfl (fun T43 X43 e43 => ?_)
  refine w_aloadN X43 hx (hb hby d6_4) (pc' := 5) rfl rfl rfl ?_
  refine w_getF X43 hx hZ hown e43 F_heap (hw _ (List.mem_of_getElem? (i := 19) rfl)) (hb hby d6_5) (pc' := 8) rfl (fun T44 X44 e44 => ?_)
  refine w_alenJ X44 hx hZ e44 V_hp (n := ((rest.length + 1 + 1).toInt32)) rfl (hb hby d6_8) (pc' := 9) rfl ?_
  have hf9 : ¬ ((1 : Int32) = ((rest.length + 1 + 1).toInt32)) := fun q => absurd ((own_ieq (a := 1) (by decide) (by omega)).1 q) (by omega)
  refine w_icmp_ne X44 hx (hb hby d6_9) (pf := 12) (pt := 29) rfl (by decide) (by decide) (fun hc9 => ?_) (fun hc => absurd hc hf9)
  refine w_lloadN X44 hx (hb hby d6_29) (pc' := 30) rfl rfl ?_
  refine w_bipush (v := 32) X44 hx (hb hby d6_30) (pc' := 32) rfl rfl ?_
  refine w_lshl X44 hx (hb hby d6_32) (pc' := 33) rfl ?_
  refine w_iloadN X44 hx (hb hby d6_33) (pc' := 34) rfl rfl ?_
  refine w_i2l X44 hx (hb hby d6_34) (pc' := 35) rfl ?_
  refine w_lor X44 hx (hb hby d6_35) (pc' := 36) rfl ?_
  refine w_lstore (Ls' := #[.val (.ref ob), .val (.long x1), .second, .val (.int x2), .val (.long ((x1 <<< ((32 : Int32) &&& 0x3f).toInt64) ||| x2.toInt64)), .second, .unset]) X44 hx (hb hby d6_36) (pc' := 38) rfl rfl ?_
  rw [hev]
  refine w_aloadN X44 hx (hb hby d6_38) (pc' := 39) rfl rfl rfl ?_
  refine w_getF X44 hx hZ hown e44 F_size (hw _ (List.mem_of_getElem? (i := 30) rfl)) (hb hby d6_39) (pc' := 42) rfl (fun T45 X45 e45 => ?_)
  refine w_istore (Ls' := #[.val (.ref ob), .val (.long x1), .second, .val (.int x2), .val (.long ev), .second, .val (.int (1 : Int32))]) X45 hx (hb hby d6_42) (pc' := 44) rfl rfl ?_
  refine w_aloadN X45 hx (hb hby d6_44) (pc' := 45) rfl rfl rfl ?_
  refine w_dup X45 hx (hb hby d6_45) (pc' := 46) rfl rfl ?_
  refine w_getF X45 hx hZ hown e45 F_size (hw _ (List.mem_of_getElem? (i := 30) rfl)) (hb hby d6_46) (pc' := 49) rfl (fun T46 X46 e46 => ?_)
  refine w_iconst (v := 1) X46 hx (hb hby d6_49) (pc' := 50) rfl rfl ?_
  refine w_iadd X46 hx (hb hby d6_50) (pc' := 51) rfl ?_
  rw [show ((1 : Int32) + (1 : Int32)) = (2 : Int32) from by decide]
  refine w_putF X46 hx hZ hown e46 F_size E_ob (hw _ (List.mem_of_getElem? (i := 30) rfl)) (Or.inl (hw _ (List.mem_of_getElem? (i := 31) rfl))) (hw _ (List.mem_of_getElem? (i := 7) rfl)) (ty := .int) (by decide) rfl rfl (hb hby d6_51) (pc' := 54) rfl (fun T47 h47 X47 e47 W47 => ?_)
  have F47 := F_size.same W47
  have KP47 := KP0.wr W47 (Or.inl (by simp))
  have N47 := Fr.snoc X47 N0 g_ob
  have zn47 : n0 ≤ h47.size := by rw [W47.size]; exact Z0
  refine w_iload X47 hx (hb hby d6_54) (pc' := 56) rfl rfl ?_
  have hf56 : (0 : Int32) < (1 : Int32) := (by decide)
  refine w_if_le X47 hx (hb hby d6_56) (pf := 59) (pt := 105) rfl (by decide) (by decide) (fun hc => absurd hf56 hc) (fun hc56 => ?_)
  refine w_aloadN X47 hx (hb hby d6_59) (pc' := 60) rfl rfl rfl ?_
  have f48 := F_heap.other W47 (Or.inr (slot_ne (Or.inl (hw _ (List.mem_of_getElem? (i := 20) rfl))) (Or.inl (hw _ (List.mem_of_getElem? (i := 31) rfl))) (by decide) (t := (.array .long)) (t' := .int) (by decide) (by decide)))
  refine w_getF X47 hx hZ hown e47 f48 (hw _ (List.mem_of_getElem? (i := 19) rfl)) (hb hby d6_60) (pc' := 63) rfl (fun T49 X49 e49 => ?_)
  refine w_iload X49 hx (hb hby d6_63) (pc' := 65) rfl rfl ?_
  refine w_iconst (v := 1) X49 hx (hb hby d6_65) (pc' := 66) rfl rfl ?_
  refine w_isub X49 hx (hb hby d6_66) (pc' := 67) rfl ?_
  rw [show ((1 : Int32) - (1 : Int32)) = (0 : Int32) from by decide]
  refine w_iconst (v := 1) X49 hx (hb hby d6_67) (pc' := 68) rfl rfl ?_
  refine w_iushr X49 hx (hb hby d6_68) (pc' := 69) rfl ?_
  rw [show (jushr (0 : Int32) (1 : Int32)) = (0 : Int32) from by decide]
  have f50 := V_hp.other W47 nho
  refine w_laload X49 hx hZ e49 f50 (v := y0) (by decide) rfl (hb hby d6_69) (pc' := 70) rfl ?_
  refine w_lload X49 hx (hb hby d6_70) (pc' := 72) rfl rfl ?_
  refine w_lcmp X49 hx (hb hby d6_72) (pc' := 73) rfl ?_
  refine w_ifL_le X49 hx (hb hby d6_73) (pf := 76) (pt := 105) rfl (by decide) (by decide) (fun hc73 => ?_) (fun hc73 => ?_)
  · have hz55 := mt Int64.lt_iff_toInt_lt.mpr hc73
    refine w_aloadN X49 hx (hb hby d6_105) (pc' := 106) rfl rfl rfl ?_
    refine w_getF X49 hx hZ hown e49 f48 (hw _ (List.mem_of_getElem? (i := 19) rfl)) (hb hby d6_106) (pc' := 109) rfl (fun T51 X51 e51 => ?_)
    refine w_iload X51 hx (hb hby d6_109) (pc' := 111) rfl rfl ?_
    refine w_lload X51 hx (hb hby d6_111) (pc' := 113) rfl rfl ?_
    refine w_lastore X51 hx hZ e51 f50 (by decide) (by show (1 : Nat) < rest.length + 1 + 1; omega) (hb hby d6_113) (pc' := 114) rfl (fun T52 h52 X52 e52 W52 V52 => ?_)
    have V52 : AJ Z h52 hp (y0 :: ev :: rest) := V52
    have KP52 := KP47.wr W52 (Or.inl (by simp))
    have N52 := Fr.snoc X52 N47 g_hp
    have zn52 : n0 ≤ h52.size := by rw [W52.size]; exact zn47
    have f53 := f48.other W52 (Or.inl (Ne.symm nho))
    have f54 := F47.other W52 (Or.inl (Ne.symm nho))
    exact w_retV X52 hx hret hlk (hb hby d6_114) (by decide) (by decide) (by rw [e52]; exact ⟨rfl, N52, KP52, hp, y0, ev, rest, f53, f54, V52, hrl, (by omega), (fun f => by omega), nho, Or.inl rfl⟩)
  · have hz65 := Int64.lt_iff_toInt_lt.mp hc73
    refine w_aloadN X49 hx (hb hby d6_76) (pc' := 77) rfl rfl rfl ?_
    refine w_getF X49 hx hZ hown e49 f48 (hw _ (List.mem_of_getElem? (i := 19) rfl)) (hb hby d6_77) (pc' := 80) rfl (fun T56 X56 e56 => ?_)
    refine w_iload X56 hx (hb hby d6_80) (pc' := 82) rfl rfl ?_
    refine w_aloadN X56 hx (hb hby d6_82) (pc' := 83) rfl rfl rfl ?_
    refine w_getF X56 hx hZ hown e56 f48 (hw _ (List.mem_of_getElem? (i := 19) rfl)) (hb hby d6_83) (pc' := 86) rfl (fun T57 X57 e57 => ?_)
    refine w_iload X57 hx (hb hby d6_86) (pc' := 88) rfl rfl ?_
    refine w_iconst (v := 1) X57 hx (hb hby d6_88) (pc' := 89) rfl rfl ?_
    refine w_isub X57 hx (hb hby d6_89) (pc' := 90) rfl ?_
    rw [show ((1 : Int32) - (1 : Int32)) = (0 : Int32) from by decide]
    refine w_iconst (v := 1) X57 hx (hb hby d6_90) (pc' := 91) rfl rfl ?_
    refine w_iushr X57 hx (hb hby d6_91) (pc' := 92) rfl ?_
    rw [show (jushr (0 : Int32) (1 : Int32)) = (0 : Int32) from by decide]
    refine w_laload X57 hx hZ e57 f50 (v := y0) (by decide) rfl (hb hby d6_92) (pc' := 93) rfl ?_
    refine w_lastore X57 hx hZ e57 f50 (by decide) (by show (1 : Nat) < rest.length + 1 + 1; omega) (hb hby d6_93) (pc' := 94) rfl (fun T58 h58 X58 e58 W58 V58 => ?_)
    have V58 : AJ Z h58 hp (y0 :: y0 :: rest) := V58
    have KP58 := KP47.wr W58 (Or.inl (by simp))
    have N58 := Fr.snoc X58 N47 g_hp
    have zn58 : n0 ≤ h58.size := by rw [W58.size]; exact zn47
    refine w_iload X58 hx (hb hby d6_94) (pc' := 96) rfl rfl ?_
    refine w_iconst (v := 1) X58 hx (hb hby d6_96) (pc' := 97) rfl rfl ?_
    refine w_isub X58 hx (hb hby d6_97) (pc' := 98) rfl ?_
    rw [show ((1 : Int32) - (1 : Int32)) = (0 : Int32) from by decide]
    refine w_iconst (v := 1) X58 hx (hb hby d6_98) (pc' := 99) rfl rfl ?_
    refine w_iushr X58 hx (hb hby d6_99) (pc' := 100) rfl ?_
    rw [show (jushr (0 : Int32) (1 : Int32)) = (0 : Int32) from by decide]
    refine w_istore (Ls' := #[.val (.ref ob), .val (.long x1), .second, .val (.int x2), .val (.long ev), .second, .val (.int (0 : Int32))]) X58 hx (hb hby d6_100) (pc' := 102) rfl rfl ?_
    refine w_goto X58 hx (hb hby d6_102) (pc' := 54) (by decide) (by decide) ?_
    refine w_iload X58 hx (hb hby d6_54) (pc' := 56) rfl rfl ?_
    have hf56 : ¬ ((0 : Int32) < (0 : Int32)) := (by decide)
    refine w_if_le X58 hx (hb hby d6_56) (pf := 59) (pt := 105) rfl (by decide) (by decide) (fun hc56 => ?_) (fun hc => absurd hc hf56)
    refine w_aloadN X58 hx (hb hby d6_105) (pc' := 106) rfl rfl rfl ?_
    have f59 := f48.other W58 (Or.inl (Ne.symm nho))
    refine w_getF X58 hx hZ hown e58 f59 (hw _ (List.mem_of_getElem? (i := 19) rfl)) (hb hby d6_106) (pc' := 109) rfl (fun T60 X60 e60 => ?_)
    refine w_iload X60 hx (hb hby d6_109) (pc' := 111) rfl rfl ?_
    refine w_lload X60 hx (hb hby d6_111) (pc' := 113) rfl rfl ?_
    refine w_lastore X60 hx hZ e60 V58 (by decide) (by show (0 : Nat) < rest.length + 1 + 1; omega) (hb hby d6_113) (pc' := 114) rfl (fun T61 h61 X61 e61 W61 V61 => ?_)
    have V61 : AJ Z h61 hp (ev :: y0 :: rest) := V61
    have KP61 := KP58.wr W61 (Or.inl (by simp))
    have N61 := Fr.snoc X61 N58 g_hp
    have zn61 : n0 ≤ h61.size := by rw [W61.size]; exact zn58
    have f62 := f59.other W61 (Or.inl (Ne.symm nho))
    have f63 := F47.other W58 (Or.inl (Ne.symm nho))
    have f64 := f63.other W61 (Or.inl (Ne.symm nho))
    exact w_retV X61 hx hret hlk (hb hby d6_114) (by decide) (by decide) (by rw [e61]; exact ⟨rfl, N61, KP61, hp, ev, y0, rest, f62, f64, V61, hrl, (by omega), (fun f => by omega), nho, Or.inl rfl⟩)
set_option maxRecDepth 65536 in
set_option maxHeartbeats 40000000 in
theorem rm6f_1 (l : Launch) (Z : State) (a0 : Array Value) (hw : ∀ d ∈ tables_1, d.before a0 Z = true) (ob : Addr) (x1 : Int64) (x2 : Int32) (h0 : Heap) (n0 : Nat) (Z0 : n0 ≤ h0.size) (hp : Addr) (ev : Int64) (y0 : Int64) (E_ob : Exa Z h0 ob "com/example/facet/facet/regex/MinQueue") (g_ob : n0 ≤ ob) (g_hp : n0 ≤ hp) (F_heap : Fld Z h0 ob "com/example/facet/facet/regex/MinQueue" "heap" "[J" (.ref hp)) (F_size : Fld Z h0 ob "com/example/facet/facet/regex/MinQueue" "size" "I" (.int (1 : Int32))) (V_hp : AJ Z h0 hp (y0 :: [])) (nho : hp ≠ ob) (hO : True) (hev : ((x1 <<< ((32 : Int32) &&& 0x3f).toInt64) ||| x2.toInt64) = ev) :
    Con l Z (⟨"com/example/facet/facet/regex/MinQueue", "add", "(JI)V"⟩ : MethodName) prog_33_method_3_code 7 none ({ frames := 2, cells := 1, slots := 8, locals := 72 } : Room) #[(.ref ob), (.long x1), (.int x2)] h0 (fun v h L => v = none ∧ Fr n0 L ∧ Keep h0 h [ob, hp] ∧ ∃ (b : Addr) (k0 k1 : Int64) (rs : List Int64), Fld Z h ob "com/example/facet/facet/regex/MinQueue" "heap" "[J" (.ref b) ∧ Fld Z h ob "com/example/facet/facet/regex/MinQueue" "size" "I" (.int (2 : Int32)) ∧ AJ Z h b (k0 :: k1 :: rs) ∧ rs.length ≤ 6 ∧ (k0.toInt ≤ k1.toInt) ∧ (∀ f : Int64 → Nat, f k0 + f k1 = f y0 + f ev) ∧ b ≠ ob ∧ (b = hp ∨ h0.size ≤ b)) := by
  refine Con.of (plainFor_of_name (by first | (simp [plainName, overriddenIn]; done) | decide +kernel)) ?_
  intro p e s m below meth c T X hx hZ hby hml hown hnm hret hlk e0
  rw [ef_6]
  have N0 := Fr.nil n0
  have KP0 := Keep.refl h0 [ob, hp]
  show Go p e below s 1 8 (fun v h L => v = none ∧ Fr n0 L ∧ Keep h0 h [ob, hp] ∧ ∃ (b : Addr) (k0 k1 : Int64) (rs : List Int64), Fld Z h ob "com/example/facet/facet/regex/MinQueue" "heap" "[J" (.ref b) ∧ Fld Z h ob "com/example/facet/facet/regex/MinQueue" "size" "I" (.int (2 : Int32)) ∧ AJ Z h b (k0 :: k1 :: rs) ∧ rs.length ≤ 6 ∧ (k0.toInt ≤ k1.toInt) ∧ (∀ f : Int64 → Nat, f k0 + f k1 = f y0 + f ev) ∧ b ≠ ob ∧ (b = hp ∨ h0.size ≤ b)) T (mkF m 0 #[.val (.ref ob), .val (.long x1), .second, .val (.int x2), .unset, .unset, .unset] [])
  refine w_aloadN X hx (hb hby d6_0) (pc' := 1) rfl rfl rfl ?_
  refine w_getF X hx hZ hown e0 F_size (hw _ (List.mem_of_getElem? (i := 30) rfl)) (hb hby d6_1) (pc' := 4) rfl (fun T66 X66 e66 => ?_)
  refine w_aloadN X66 hx (hb hby d6_4) (pc' := 5) rfl rfl rfl ?_
  refine w_getF X66 hx hZ hown e66 F_heap (hw _ (List.mem_of_getElem? (i := 19) rfl)) (hb hby d6_5) (pc' := 8) rfl (fun T67 X67 e67 => ?_)
  refine w_alenJ X67 hx hZ e67 V_hp (n := (1 : Int32)) rfl (hb hby d6_8) (pc' := 9) rfl ?_
  have hf9 : (1 : Int32) = (1 : Int32) := (by decide)
  refine w_icmp_ne X67 hx (hb hby d6_9) (pf := 12) (pt := 29) rfl (by decide) (by decide) (fun hc => absurd hf9 hc) (fun hc9 => ?_)
  refine w_aloadN X67 hx (hb hby d6_12) (pc' := 13) rfl rfl rfl ?_
  refine w_aloadN X67 hx (hb hby d6_13) (pc' := 14) rfl rfl rfl ?_
  refine w_getF X67 hx hZ hown e67 F_heap (hw _ (List.mem_of_getElem? (i := 19) rfl)) (hb hby d6_14) (pc' := 17) rfl (fun T68 X68 e68 => ?_)
  refine w_iconst (v := 2) X68 hx (hb hby d6_17) (pc' := 18) rfl rfl ?_
  refine w_aloadN X68 hx (hb hby d6_18) (pc' := 19) rfl rfl rfl ?_
  refine w_getF X68 hx hZ hown e68 F_size (hw _ (List.mem_of_getElem? (i := 30) rfl)) (hb hby d6_19) (pc' := 22) rfl (fun T69 X69 e69 => ?_)
  refine w_imul X69 hx (hb hby d6_22) (pc' := 23) rfl ?_
  rw [show ((2 : Int32) * (1 : Int32)) = (2 : Int32) from by decide]
  refine w_callS (argsL := [(.ref hp), (.int (2 : Int32))]) (rest := [(.ref ob)]) X69 hx hZ hown e69 (rm7 l Z a0 hw hp (2 : Int32) h0 n0 Z0 [y0] V_hp (by simp) rfl) (hw _ (List.mem_of_getElem? (i := 32) rfl)) (hw _ (List.mem_of_getElem? (i := 33) rfl)) (hw _ (List.mem_of_getElem? (i := 34) rfl)) (hw _ (List.mem_of_getElem? (i := 35) rfl)) (by decide) (by decide) (W := 1) (by decide) (by decide) (by decide) (by rw [hml]; rfl) (lenOf pd_1 rfl) (Nat.le_refl _) rfl (hb hby d6_23) (pc' := 26) rfl (fun T70 L70 v70 X70 hQ70 => ?_)
  obtain ⟨b70, rfl, N70q, K70, sz70, V70⟩ := hQ70
  have zn70 : n0 ≤ T70.heap.size := Nat.le_trans Z0 K70.1
  have KP70 := KP0.trans K70 all0
  have g_b70 : n0 ≤ b70 := Nat.le_trans Z0 sz70
  have sz_b70 : h0.size ≤ b70 := Nat.le_trans KP0.1 sz70
  have ne_ob_b70 : ob ≠ b70 := Nat.ne_of_lt (Nat.lt_of_lt_of_le E_ob.lt sz70)
  have ne_hp_b70 : hp ≠ b70 := Nat.ne_of_lt (Nat.lt_of_lt_of_le V_hp.lt sz70)
  have N70 := Fr.app N0 N70q
  have X70 : Stand p l e ({ frames := 2, cells := 1, slots := 8, locals := 72 } : Room) s m _ below meth c T70 _ 1 8 := X70
  have V70 : AJ Z T70.heap b70 [y0, (0 : Int64)] := V70
  show Go p e below s 1 8 (fun v h L => v = none ∧ Fr n0 L ∧ Keep h0 h [ob, hp] ∧ ∃ (b : Addr) (k0 k1 : Int64) (rs : List Int64), Fld Z h ob "com/example/facet/facet/regex/MinQueue" "heap" "[J" (.ref b) ∧ Fld Z h ob "com/example/facet/facet/regex/MinQueue" "size" "I" (.int (2 : Int32)) ∧ AJ Z h b (k0 :: k1 :: rs) ∧ rs.length ≤ 6 ∧ (k0.toInt ≤ k1.toInt) ∧ (∀ f : Int64 → Nat, f k0 + f k1 = f y0 + f ev) ∧ b ≠ ob ∧ (b = hp ∨ h0.size ≤ b)) T70 (mkF m 26 #[.val (.ref ob), .val (.long x1), .second, .val (.int x2), .unset, .unset, .unset] [(.ref b70), (.ref ob)])
  have f71 := F_heap.keep K70 nin0
  have f72 := E_ob.keep K70
  refine w_putF X70 hx hZ hown rfl f71 f72 (hw _ (List.mem_of_getElem? (i := 19) rfl)) (Or.inl (hw _ (List.mem_of_getElem? (i := 20) rfl))) (hw _ (List.mem_of_getElem? (i := 7) rfl)) (ty := (.array .long)) (by decide) rfl rfl (hb hby d6_26) (pc' := 29) rfl (fun T73 h73 X73 e73 W73 => ?_)
  have F73 := f71.same W73
  have KP73 := KP70.wr W73 (Or.inl (by simp))
  have N73 := Fr.snoc X73 N70 g_ob
  have zn73 : n0 ≤ h73.size := by rw [W73.size]; exact zn70
  refine w_lloadN X73 hx (hb hby d6_29) (pc' := 30) rfl rfl ?_
  refine w_bipush (v := 32) X73 hx (hb hby d6_30) (pc' := 32) rfl rfl ?_
  refine w_lshl X73 hx (hb hby d6_32) (pc' := 33) rfl ?_
  refine w_iloadN X73 hx (hb hby d6_33) (pc' := 34) rfl rfl ?_
  refine w_i2l X73 hx (hb hby d6_34) (pc' := 35) rfl ?_
  refine w_lor X73 hx (hb hby d6_35) (pc' := 36) rfl ?_
  refine w_lstore (Ls' := #[.val (.ref ob), .val (.long x1), .second, .val (.int x2), .val (.long ((x1 <<< ((32 : Int32) &&& 0x3f).toInt64) ||| x2.toInt64)), .second, .unset]) X73 hx (hb hby d6_36) (pc' := 38) rfl rfl ?_
  rw [hev]
  refine w_aloadN X73 hx (hb hby d6_38) (pc' := 39) rfl rfl rfl ?_
  have f74 := F_size.keep K70 nin0
  have f75 := f74.other W73 (Or.inr (slot_ne (Or.inl (hw _ (List.mem_of_getElem? (i := 31) rfl))) (Or.inl (hw _ (List.mem_of_getElem? (i := 20) rfl))) (by decide) (t := .int) (t' := (.array .long)) (by decide) (by decide)))
  refine w_getF X73 hx hZ hown e73 f75 (hw _ (List.mem_of_getElem? (i := 30) rfl)) (hb hby d6_39) (pc' := 42) rfl (fun T76 X76 e76 => ?_)
  refine w_istore (Ls' := #[.val (.ref ob), .val (.long x1), .second, .val (.int x2), .val (.long ev), .second, .val (.int (1 : Int32))]) X76 hx (hb hby d6_42) (pc' := 44) rfl rfl ?_
  refine w_aloadN X76 hx (hb hby d6_44) (pc' := 45) rfl rfl rfl ?_
  refine w_dup X76 hx (hb hby d6_45) (pc' := 46) rfl rfl ?_
  refine w_getF X76 hx hZ hown e76 f75 (hw _ (List.mem_of_getElem? (i := 30) rfl)) (hb hby d6_46) (pc' := 49) rfl (fun T77 X77 e77 => ?_)
  refine w_iconst (v := 1) X77 hx (hb hby d6_49) (pc' := 50) rfl rfl ?_
  refine w_iadd X77 hx (hb hby d6_50) (pc' := 51) rfl ?_
  rw [show ((1 : Int32) + (1 : Int32)) = (2 : Int32) from by decide]
  have f78 := f72.wr W73
  refine w_putF X77 hx hZ hown e77 f75 f78 (hw _ (List.mem_of_getElem? (i := 30) rfl)) (Or.inl (hw _ (List.mem_of_getElem? (i := 31) rfl))) (hw _ (List.mem_of_getElem? (i := 7) rfl)) (ty := .int) (by decide) rfl rfl (hb hby d6_51) (pc' := 54) rfl (fun T79 h79 X79 e79 W79 => ?_)
  have F79 := f75.same W79
  have KP79 := KP73.wr W79 (Or.inl (by simp))
  have N79 := Fr.snoc X79 N73 g_ob
  have zn79 : n0 ≤ h79.size := by rw [W79.size]; exact zn73
  refine w_iload X79 hx (hb hby d6_54) (pc' := 56) rfl rfl ?_
  have hf56 : (0 : Int32) < (1 : Int32) := (by decide)
  refine w_if_le X79 hx (hb hby d6_56) (pf := 59) (pt := 105) rfl (by decide) (by decide) (fun hc => absurd hf56 hc) (fun hc56 => ?_)
  refine w_aloadN X79 hx (hb hby d6_59) (pc' := 60) rfl rfl rfl ?_
  have f80 := F73.other W79 (Or.inr (slot_ne (Or.inl (hw _ (List.mem_of_getElem? (i := 20) rfl))) (Or.inl (hw _ (List.mem_of_getElem? (i := 31) rfl))) (by decide) (t := (.array .long)) (t' := .int) (by decide) (by decide)))
  refine w_getF X79 hx hZ hown e79 f80 (hw _ (List.mem_of_getElem? (i := 19) rfl)) (hb hby d6_60) (pc' := 63) rfl (fun T81 X81 e81 => ?_)
  refine w_iload X81 hx (hb hby d6_63) (pc' := 65) rfl rfl ?_
  refine w_iconst (v := 1) X81 hx (hb hby d6_65) (pc' := 66) rfl rfl ?_
  refine w_isub X81 hx (hb hby d6_66) (pc' := 67) rfl ?_
  rw [show ((1 : Int32) - (1 : Int32)) = (0 : Int32) from by decide]
  refine w_iconst (v := 1) X81 hx (hb hby d6_67) (pc' := 68) rfl rfl ?_
  refine w_iushr X81 hx (hb hby d6_68) (pc' := 69) rfl ?_
  rw [show (jushr (0 : Int32) (1 : Int32)) = (0 : Int32) from by decide]
  have f82 := V70.other W73 (Ne.symm ne_ob_b70)
  have f83 := f82.other W79 (Ne.symm ne_ob_b70)
  refine w_laload X81 hx hZ e81 f83 (v := y0) (by decide) rfl (hb hby d6_69) (pc' := 70) rfl ?_
  refine w_lload X81 hx (hb hby d6_70) (pc' := 72) rfl rfl ?_
  refine w_lcmp X81 hx (hb hby d6_72) (pc' := 73) rfl ?_
  refine w_ifL_le X81 hx (hb hby d6_73) (pf := 76) (pt := 105) rfl (by decide) (by decide) (fun hc73 => ?_) (fun hc73 => ?_)
  · have hz88 := mt Int64.lt_iff_toInt_lt.mpr hc73
    refine w_aloadN X81 hx (hb hby d6_105) (pc' := 106) rfl rfl rfl ?_
    refine w_getF X81 hx hZ hown e81 f80 (hw _ (List.mem_of_getElem? (i := 19) rfl)) (hb hby d6_106) (pc' := 109) rfl (fun T84 X84 e84 => ?_)
    refine w_iload X84 hx (hb hby d6_109) (pc' := 111) rfl rfl ?_
    refine w_lload X84 hx (hb hby d6_111) (pc' := 113) rfl rfl ?_
    refine w_lastore X84 hx hZ e84 f83 (by decide) (by show _ < 2; decide) (hb hby d6_113) (pc' := 114) rfl (fun T85 h85 X85 e85 W85 V85 => ?_)
    have V85 : AJ Z h85 b70 [y0, ev] := V85
    have KP85 := KP79.wr W85 (Or.inr sz_b70)
    have N85 := Fr.snoc X85 N79 g_b70
    have zn85 : n0 ≤ h85.size := by rw [W85.size]; exact zn79
    have f86 := f80.other W85 (Or.inl ne_ob_b70)
    have f87 := F79.other W85 (Or.inl ne_ob_b70)
    exact w_retV X85 hx hret hlk (hb hby d6_114) (by decide) (by decide) (by rw [e85]; exact ⟨rfl, N85, KP85, b70, y0, ev, [], f86, f87, V85, (by decide), (by omega), (fun f => by omega), (Ne.symm ne_ob_b70), Or.inr sz_b70⟩)
  · have hz98 := Int64.lt_iff_toInt_lt.mp hc73
    refine w_aloadN X81 hx (hb hby d6_76) (pc' := 77) rfl rfl rfl ?_
    refine w_getF X81 hx hZ hown e81 f80 (hw _ (List.mem_of_getElem? (i := 19) rfl)) (hb hby d6_77) (pc' := 80) rfl (fun T89 X89 e89 => ?_)
    refine w_iload X89 hx (hb hby d6_80) (pc' := 82) rfl rfl ?_
    refine w_aloadN X89 hx (hb hby d6_82) (pc' := 83) rfl rfl rfl ?_
    refine w_getF X89 hx hZ hown e89 f80 (hw _ (List.mem_of_getElem? (i := 19) rfl)) (hb hby d6_83) (pc' := 86) rfl (fun T90 X90 e90 => ?_)
    refine w_iload X90 hx (hb hby d6_86) (pc' := 88) rfl rfl ?_
    refine w_iconst (v := 1) X90 hx (hb hby d6_88) (pc' := 89) rfl rfl ?_
    refine w_isub X90 hx (hb hby d6_89) (pc' := 90) rfl ?_
    rw [show ((1 : Int32) - (1 : Int32)) = (0 : Int32) from by decide]
    refine w_iconst (v := 1) X90 hx (hb hby d6_90) (pc' := 91) rfl rfl ?_
    refine w_iushr X90 hx (hb hby d6_91) (pc' := 92) rfl ?_
    rw [show (jushr (0 : Int32) (1 : Int32)) = (0 : Int32) from by decide]
    refine w_laload X90 hx hZ e90 f83 (v := y0) (by decide) rfl (hb hby d6_92) (pc' := 93) rfl ?_
    refine w_lastore X90 hx hZ e90 f83 (by decide) (by show _ < 2; decide) (hb hby d6_93) (pc' := 94) rfl (fun T91 h91 X91 e91 W91 V91 => ?_)
    have V91 : AJ Z h91 b70 [y0, y0] := V91
    have KP91 := KP79.wr W91 (Or.inr sz_b70)
    have N91 := Fr.snoc X91 N79 g_b70
    have zn91 : n0 ≤ h91.size := by rw [W91.size]; exact zn79
    refine w_iload X91 hx (hb hby d6_94) (pc' := 96) rfl rfl ?_
    refine w_iconst (v := 1) X91 hx (hb hby d6_96) (pc' := 97) rfl rfl ?_
    refine w_isub X91 hx (hb hby d6_97) (pc' := 98) rfl ?_
    rw [show ((1 : Int32) - (1 : Int32)) = (0 : Int32) from by decide]
    refine w_iconst (v := 1) X91 hx (hb hby d6_98) (pc' := 99) rfl rfl ?_
    refine w_iushr X91 hx (hb hby d6_99) (pc' := 100) rfl ?_
    rw [show (jushr (0 : Int32) (1 : Int32)) = (0 : Int32) from by decide]
    refine w_istore (Ls' := #[.val (.ref ob), .val (.long x1), .second, .val (.int x2), .val (.long ev), .second, .val (.int (0 : Int32))]) X91 hx (hb hby d6_100) (pc' := 102) rfl rfl ?_
    refine w_goto X91 hx (hb hby d6_102) (pc' := 54) (by decide) (by decide) ?_
    refine w_iload X91 hx (hb hby d6_54) (pc' := 56) rfl rfl ?_
    have hf56 : ¬ ((0 : Int32) < (0 : Int32)) := (by decide)
    refine w_if_le X91 hx (hb hby d6_56) (pf := 59) (pt := 105) rfl (by decide) (by decide) (fun hc56 => ?_) (fun hc => absurd hc hf56)
    refine w_aloadN X91 hx (hb hby d6_105) (pc' := 106) rfl rfl rfl ?_
    have f92 := f80.other W91 (Or.inl ne_ob_b70)
    refine w_getF X91 hx hZ hown e91 f92 (hw _ (List.mem_of_getElem? (i := 19) rfl)) (hb hby d6_106) (pc' := 109) rfl (fun T93 X93 e93 => ?_)
    refine w_iload X93 hx (hb hby d6_109) (pc' := 111) rfl rfl ?_
    refine w_lload X93 hx (hb hby d6_111) (pc' := 113) rfl rfl ?_
    refine w_lastore X93 hx hZ e93 V91 (by decide) (by show _ < 2; decide) (hb hby d6_113) (pc' := 114) rfl (fun T94 h94 X94 e94 W94 V94 => ?_)
    have V94 : AJ Z h94 b70 [ev, y0] := V94
    have KP94 := KP91.wr W94 (Or.inr sz_b70)
    have N94 := Fr.snoc X94 N91 g_b70
    have zn94 : n0 ≤ h94.size := by rw [W94.size]; exact zn91
    have f95 := f92.other W94 (Or.inl ne_ob_b70)
    have f96 := F79.other W91 (Or.inl ne_ob_b70)
    have f97 := f96.other W94 (Or.inl ne_ob_b70)
    exact w_retV X94 hx hret hlk (hb hby d6_114) (by decide) (by decide) (by rw [e94]; exact ⟨rfl, N94, KP94, b70, ev, y0, [], f95, f97, V94, (by decide), (by omega), (fun f => by omega), (Ne.symm ne_ob_b70), Or.inr sz_b70⟩)
theorem rm6_1 (l : Launch) (Z : State) (a0 : Array Value) (hw : ∀ d ∈ tables_1, d.before a0 Z = true) (ob : Addr) (x1 : Int64) (x2 : Int32) (h0 : Heap) (n0 : Nat) (Z0 : n0 ≤ h0.size) (hp : Addr) (ev : Int64) (y0 : Int64) (rest : List Int64) (E_ob : Exa Z h0 ob "com/example/facet/facet/regex/MinQueue") (g_ob : n0 ≤ ob) (g_hp : n0 ≤ hp) (F_heap : Fld Z h0 ob "com/example/facet/facet/regex/MinQueue" "heap" "[J" (.ref hp)) (F_size : Fld Z h0 ob "com/example/facet/facet/regex/MinQueue" "size" "I" (.int (1 : Int32))) (V_hp : AJ Z h0 hp (y0 :: rest)) (nho : hp ≠ ob) (hO : True) (hev : ((x1 <<< ((32 : Int32) &&& 0x3f).toInt64) ||| x2.toInt64) = ev) (hrl : rest.length ≤ 7) :
    Con l Z (⟨"com/example/facet/facet/regex/MinQueue", "add", "(JI)V"⟩ : MethodName) prog_33_method_3_code 7 none ({ frames := 2, cells := 1, slots := 8, locals := 72 } : Room) #[.ref ob, .long x1, .int x2] h0 (fun v h L => v = none ∧ Fr n0 L ∧ Keep h0 h [ob, hp] ∧ ∃ (b : Addr) (k0 k1 : Int64) (rs : List Int64), Fld Z h ob "com/example/facet/facet/regex/MinQueue" "heap" "[J" (.ref b) ∧ Fld Z h ob "com/example/facet/facet/regex/MinQueue" "size" "I" (.int (2 : Int32)) ∧ AJ Z h b (k0 :: k1 :: rs) ∧ rs.length ≤ 6 ∧ (k0.toInt ≤ k1.toInt) ∧ (∀ f : Int64 → Nat, f k0 + f k1 = f y0 + f ev) ∧ b ≠ ob ∧ (b = hp ∨ h0.size ≤ b)) := by
  cases rest with
  | nil => exact rm6f_1 l Z a0 hw ob x1 x2 h0 n0 Z0 hp ev y0 E_ob g_ob g_hp F_heap F_size V_hp nho hO hev
  | cons r rest => exact rm6r_1 l Z a0 hw ob x1 x2 h0 n0 Z0 hp ev y0 r rest E_ob g_ob g_hp F_heap F_size V_hp nho hO hev (by simp at hrl; omega)
set_option maxRecDepth 65536 in
set_option maxHeartbeats 40000000 in
theorem rm6r_2 (l : Launch) (Z : State) (a0 : Array Value) (hw : ∀ d ∈ tables_1, d.before a0 Z = true) (ob : Addr) (x1 : Int64) (x2 : Int32) (h0 : Heap) (n0 : Nat) (Z0 : n0 ≤ h0.size) (hp : Addr) (ev : Int64) (y0 : Int64) (y1 : Int64) (r : Int64) (rest : List Int64) (E_ob : Exa Z h0 ob "com/example/facet/facet/regex/MinQueue") (g_ob : n0 ≤ ob) (g_hp : n0 ≤ hp) (F_heap : Fld Z h0 ob "com/example/facet/facet/regex/MinQueue" "heap" "[J" (.ref hp)) (F_size : Fld Z h0 ob "com/example/facet/facet/regex/MinQueue" "size" "I" (.int (2 : Int32))) (V_hp : AJ Z h0 hp (y0 :: y1 :: r :: rest)) (nho : hp ≠ ob) (hO : y0.toInt ≤ y1.toInt) (hev : ((x1 <<< ((32 : Int32) &&& 0x3f).toInt64) ||| x2.toInt64) = ev) (hrl : rest.length ≤ 5) :
    Con l Z (⟨"com/example/facet/facet/regex/MinQueue", "add", "(JI)V"⟩ : MethodName) prog_33_method_3_code 7 none ({ frames := 2, cells := 1, slots := 8, locals := 72 } : Room) #[(.ref ob), (.long x1), (.int x2)] h0 (fun v h L => v = none ∧ Fr n0 L ∧ Keep h0 h [ob, hp] ∧ ∃ (b : Addr) (k0 k1 k2 : Int64) (rs : List Int64), Fld Z h ob "com/example/facet/facet/regex/MinQueue" "heap" "[J" (.ref b) ∧ Fld Z h ob "com/example/facet/facet/regex/MinQueue" "size" "I" (.int (3 : Int32)) ∧ AJ Z h b (k0 :: k1 :: k2 :: rs) ∧ rs.length ≤ 5 ∧ (k0.toInt ≤ k1.toInt ∧ k0.toInt ≤ k2.toInt) ∧ (∀ f : Int64 → Nat, f k0 + f k1 + f k2 = f y0 + f y1 + f ev) ∧ b ≠ ob ∧ (b = hp ∨ h0.size ≤ b)) := by
  refine Con.of (plainFor_of_name (by first | (simp [plainName, overriddenIn]; done) | decide +kernel)) ?_
  intro p e s m below meth c T X hx hZ hby hml hown hnm hret hlk e0
  rw [ef_6]
  have N0 := Fr.nil n0
  have KP0 := Keep.refl h0 [ob, hp]
  show Go p e below s 1 8 (fun v h L => v = none ∧ Fr n0 L ∧ Keep h0 h [ob, hp] ∧ ∃ (b : Addr) (k0 k1 k2 : Int64) (rs : List Int64), Fld Z h ob "com/example/facet/facet/regex/MinQueue" "heap" "[J" (.ref b) ∧ Fld Z h ob "com/example/facet/facet/regex/MinQueue" "size" "I" (.int (3 : Int32)) ∧ AJ Z h b (k0 :: k1 :: k2 :: rs) ∧ rs.length ≤ 5 ∧ (k0.toInt ≤ k1.toInt ∧ k0.toInt ≤ k2.toInt) ∧ (∀ f : Int64 → Nat, f k0 + f k1 + f k2 = f y0 + f y1 + f ev) ∧ b ≠ ob ∧ (b = hp ∨ h0.size ≤ b)) T (mkF m 0 #[.val (.ref ob), .val (.long x1), .second, .val (.int x2), .unset, .unset, .unset] [])
  refine w_aloadN X hx (hb hby d6_0) (pc' := 1) rfl rfl rfl ?_
  refine w_getF X hx hZ hown e0 F_size (hw _ (List.mem_of_getElem? (i := 30) rfl)) (hb hby d6_1) (pc' := 4) rfl (fun T99 X99 e99 => ?_)
  refine w_aloadN X99 hx (hb hby d6_4) (pc' := 5) rfl rfl rfl ?_
  refine w_getF X99 hx hZ hown e99 F_heap (hw _ (List.mem_of_getElem? (i := 19) rfl)) (hb hby d6_5) (pc' := 8) rfl (fun T100 X100 e100 => ?_)
  refine w_alenJ X100 hx hZ e100 V_hp (n := ((rest.length + 1 + 1 + 1).toInt32)) rfl (hb hby d6_8) (pc' := 9) rfl ?_
  have hf9 : ¬ ((2 : Int32) = ((rest.length + 1 + 1 + 1).toInt32)) := fun q => absurd ((own_ieq (a := 2) (by decide) (by omega)).1 q) (by omega)
  refine w_icmp_ne X100 hx (hb hby d6_9) (pf := 12) (pt := 29) rfl (by decide) (by decide) (fun hc9 => ?_) (fun hc => absurd hc hf9)
  refine w_lloadN X100 hx (hb hby d6_29) (pc' := 30) rfl rfl ?_
  refine w_bipush (v := 32) X100 hx (hb hby d6_30) (pc' := 32) rfl rfl ?_
  refine w_lshl X100 hx (hb hby d6_32) (pc' := 33) rfl ?_
  refine w_iloadN X100 hx (hb hby d6_33) (pc' := 34) rfl rfl ?_
  refine w_i2l X100 hx (hb hby d6_34) (pc' := 35) rfl ?_
  refine w_lor X100 hx (hb hby d6_35) (pc' := 36) rfl ?_
  refine w_lstore (Ls' := #[.val (.ref ob), .val (.long x1), .second, .val (.int x2), .val (.long ((x1 <<< ((32 : Int32) &&& 0x3f).toInt64) ||| x2.toInt64)), .second, .unset]) X100 hx (hb hby d6_36) (pc' := 38) rfl rfl ?_
  rw [hev]
  refine w_aloadN X100 hx (hb hby d6_38) (pc' := 39) rfl rfl rfl ?_
  refine w_getF X100 hx hZ hown e100 F_size (hw _ (List.mem_of_getElem? (i := 30) rfl)) (hb hby d6_39) (pc' := 42) rfl (fun T101 X101 e101 => ?_)
  refine w_istore (Ls' := #[.val (.ref ob), .val (.long x1), .second, .val (.int x2), .val (.long ev), .second, .val (.int (2 : Int32))]) X101 hx (hb hby d6_42) (pc' := 44) rfl rfl ?_
  refine w_aloadN X101 hx (hb hby d6_44) (pc' := 45) rfl rfl rfl ?_
  refine w_dup X101 hx (hb hby d6_45) (pc' := 46) rfl rfl ?_
  refine w_getF X101 hx hZ hown e101 F_size (hw _ (List.mem_of_getElem? (i := 30) rfl)) (hb hby d6_46) (pc' := 49) rfl (fun T102 X102 e102 => ?_)
  refine w_iconst (v := 1) X102 hx (hb hby d6_49) (pc' := 50) rfl rfl ?_
  refine w_iadd X102 hx (hb hby d6_50) (pc' := 51) rfl ?_
  rw [show ((2 : Int32) + (1 : Int32)) = (3 : Int32) from by decide]
  refine w_putF X102 hx hZ hown e102 F_size E_ob (hw _ (List.mem_of_getElem? (i := 30) rfl)) (Or.inl (hw _ (List.mem_of_getElem? (i := 31) rfl))) (hw _ (List.mem_of_getElem? (i := 7) rfl)) (ty := .int) (by decide) rfl rfl (hb hby d6_51) (pc' := 54) rfl (fun T103 h103 X103 e103 W103 => ?_)
  have F103 := F_size.same W103
  have KP103 := KP0.wr W103 (Or.inl (by simp))
  have N103 := Fr.snoc X103 N0 g_ob
  have zn103 : n0 ≤ h103.size := by rw [W103.size]; exact Z0
  refine w_iload X103 hx (hb hby d6_54) (pc' := 56) rfl rfl ?_
  have hf56 : (0 : Int32) < (2 : Int32) := (by decide)
  refine w_if_le X103 hx (hb hby d6_56) (pf := 59) (pt := 105) rfl (by decide) (by decide) (fun hc => absurd hf56 hc) (fun hc56 => ?_)
  refine w_aloadN X103 hx (hb hby d6_59) (pc' := 60) rfl rfl rfl ?_
  have f104 := F_heap.other W103 (Or.inr (slot_ne (Or.inl (hw _ (List.mem_of_getElem? (i := 20) rfl))) (Or.inl (hw _ (List.mem_of_getElem? (i := 31) rfl))) (by decide) (t := (.array .long)) (t' := .int) (by decide) (by decide)))
  refine w_getF X103 hx hZ hown e103 f104 (hw _ (List.mem_of_getElem? (i := 19) rfl)) (hb hby d6_60) (pc' := 63) rfl (fun T105 X105 e105 => ?_)
  refine w_iload X105 hx (hb hby d6_63) (pc' := 65) rfl rfl ?_
  refine w_iconst (v := 1) X105 hx (hb hby d6_65) (pc' := 66) rfl rfl ?_
  refine w_isub X105 hx (hb hby d6_66) (pc' := 67) rfl ?_
  rw [show ((2 : Int32) - (1 : Int32)) = (1 : Int32) from by decide]
  refine w_iconst (v := 1) X105 hx (hb hby d6_67) (pc' := 68) rfl rfl ?_
  refine w_iushr X105 hx (hb hby d6_68) (pc' := 69) rfl ?_
  rw [show (jushr (1 : Int32) (1 : Int32)) = (0 : Int32) from by decide]
  have f106 := V_hp.other W103 nho
  refine w_laload X105 hx hZ e105 f106 (v := y0) (by decide) rfl (hb hby d6_69) (pc' := 70) rfl ?_
  refine w_lload X105 hx (hb hby d6_70) (pc' := 72) rfl rfl ?_
  refine w_lcmp X105 hx (hb hby d6_72) (pc' := 73) rfl ?_
  refine w_ifL_le X105 hx (hb hby d6_73) (pf := 76) (pt := 105) rfl (by decide) (by decide) (fun hc73 => ?_) (fun hc73 => ?_)
  · have hz111 := mt Int64.lt_iff_toInt_lt.mpr hc73
    refine w_aloadN X105 hx (hb hby d6_105) (pc' := 106) rfl rfl rfl ?_
    refine w_getF X105 hx hZ hown e105 f104 (hw _ (List.mem_of_getElem? (i := 19) rfl)) (hb hby d6_106) (pc' := 109) rfl (fun T107 X107 e107 => ?_)
    refine w_iload X107 hx (hb hby d6_109) (pc' := 111) rfl rfl ?_
    refine w_lload X107 hx (hb hby d6_111) (pc' := 113) rfl rfl ?_
    refine w_lastore X107 hx hZ e107 f106 (by decide) (by show (2 : Nat) < rest.length + 1 + 1 + 1; omega) (hb hby d6_113) (pc' := 114) rfl (fun T108 h108 X108 e108 W108 V108 => ?_)
    have V108 : AJ Z h108 hp (y0 :: y1 :: ev :: rest) := V108
    have KP108 := KP103.wr W108 (Or.inl (by simp))
    have N108 := Fr.snoc X108 N103 g_hp
    have zn108 : n0 ≤ h108.size := by rw [W108.size]; exact zn103
    have f109 := f104.other W108 (Or.inl (Ne.symm nho))
    have f110 := F103.other W108 (Or.inl (Ne.symm nho))
    exact w_retV X108 hx hret hlk (hb hby d6_114) (by decide) (by decide) (by rw [e108]; exact ⟨rfl, N108, KP108, hp, y0, y1, ev, rest, f109, f110, V108, hrl, (by omega), (fun f => by omega), nho, Or.inl rfl⟩)
  · have hz121 := Int64.lt_iff_toInt_lt.mp hc73
    refine w_aloadN X105 hx (hb hby d6_76) (pc' := 77) rfl rfl rfl ?_
    refine w_getF X105 hx hZ hown e105 f104 (hw _ (List.mem_of_getElem? (i := 19) rfl)) (hb hby d6_77) (pc' := 80) rfl (fun T112 X112 e112 => ?_)
    refine w_iload X112 hx (hb hby d6_80) (pc' := 82) rfl rfl ?_
    refine w_aloadN X112 hx (hb hby d6_82) (pc' := 83) rfl rfl rfl ?_
    refine w_getF X112 hx hZ hown e112 f104 (hw _ (List.mem_of_getElem? (i := 19) rfl)) (hb hby d6_83) (pc' := 86) rfl (fun T113 X113 e113 => ?_)
    refine w_iload X113 hx (hb hby d6_86) (pc' := 88) rfl rfl ?_
    refine w_iconst (v := 1) X113 hx (hb hby d6_88) (pc' := 89) rfl rfl ?_
    refine w_isub X113 hx (hb hby d6_89) (pc' := 90) rfl ?_
    rw [show ((2 : Int32) - (1 : Int32)) = (1 : Int32) from by decide]
    refine w_iconst (v := 1) X113 hx (hb hby d6_90) (pc' := 91) rfl rfl ?_
    refine w_iushr X113 hx (hb hby d6_91) (pc' := 92) rfl ?_
    rw [show (jushr (1 : Int32) (1 : Int32)) = (0 : Int32) from by decide]
    refine w_laload X113 hx hZ e113 f106 (v := y0) (by decide) rfl (hb hby d6_92) (pc' := 93) rfl ?_
    refine w_lastore X113 hx hZ e113 f106 (by decide) (by show (2 : Nat) < rest.length + 1 + 1 + 1; omega) (hb hby d6_93) (pc' := 94) rfl (fun T114 h114 X114 e114 W114 V114 => ?_)
    have V114 : AJ Z h114 hp (y0 :: y1 :: y0 :: rest) := V114
    have KP114 := KP103.wr W114 (Or.inl (by simp))
    have N114 := Fr.snoc X114 N103 g_hp
    have zn114 : n0 ≤ h114.size := by rw [W114.size]; exact zn103
    refine w_iload X114 hx (hb hby d6_94) (pc' := 96) rfl rfl ?_
    refine w_iconst (v := 1) X114 hx (hb hby d6_96) (pc' := 97) rfl rfl ?_
    refine w_isub X114 hx (hb hby d6_97) (pc' := 98) rfl ?_
    rw [show ((2 : Int32) - (1 : Int32)) = (1 : Int32) from by decide]
    refine w_iconst (v := 1) X114 hx (hb hby d6_98) (pc' := 99) rfl rfl ?_
    refine w_iushr X114 hx (hb hby d6_99) (pc' := 100) rfl ?_
    rw [show (jushr (1 : Int32) (1 : Int32)) = (0 : Int32) from by decide]
    refine w_istore (Ls' := #[.val (.ref ob), .val (.long x1), .second, .val (.int x2), .val (.long ev), .second, .val (.int (0 : Int32))]) X114 hx (hb hby d6_100) (pc' := 102) rfl rfl ?_
    refine w_goto X114 hx (hb hby d6_102) (pc' := 54) (by decide) (by decide) ?_
    refine w_iload X114 hx (hb hby d6_54) (pc' := 56) rfl rfl ?_
    have hf56 : ¬ ((0 : Int32) < (0 : Int32)) := (by decide)
    refine w_if_le X114 hx (hb hby d6_56) (pf := 59) (pt := 105) rfl (by decide) (by decide) (fun hc56 => ?_) (fun hc => absurd hc hf56)
    refine w_aloadN X114 hx (hb hby d6_105) (pc' := 106) rfl rfl rfl ?_
    have f115 := f104.other W114 (Or.inl (Ne.symm nho))
    refine w_getF X114 hx hZ hown e114 f115 (hw _ (List.mem_of_getElem? (i := 19) rfl)) (hb hby d6_106) (pc' := 109) rfl (fun T116 X116 e116 => ?_)
    refine w_iload X116 hx (hb hby d6_109) (pc' := 111) rfl rfl ?_
    refine w_lload X116 hx (hb hby d6_111) (pc' := 113) rfl rfl ?_
    refine w_lastore X116 hx hZ e116 V114 (by decide) (by show (0 : Nat) < rest.length + 1 + 1 + 1; omega) (hb hby d6_113) (pc' := 114) rfl (fun T117 h117 X117 e117 W117 V117 => ?_)
    have V117 : AJ Z h117 hp (ev :: y1 :: y0 :: rest) := V117
    have KP117 := KP114.wr W117 (Or.inl (by simp))
    have N117 := Fr.snoc X117 N114 g_hp
    have zn117 : n0 ≤ h117.size := by rw [W117.size]; exact zn114
    have f118 := f115.other W117 (Or.inl (Ne.symm nho))
    have f119 := F103.other W114 (Or.inl (Ne.symm nho))
    have f120 := f119.other W117 (Or.inl (Ne.symm nho))
    exact w_retV X117 hx hret hlk (hb hby d6_114) (by decide) (by decide) (by rw [e117]; exact ⟨rfl, N117, KP117, hp, ev, y1, y0, rest, f118, f120, V117, hrl, (by omega), (fun f => by omega), nho, Or.inl rfl⟩)
set_option maxRecDepth 65536 in
set_option maxHeartbeats 40000000 in
theorem rm6f_2 (l : Launch) (Z : State) (a0 : Array Value) (hw : ∀ d ∈ tables_1, d.before a0 Z = true) (ob : Addr) (x1 : Int64) (x2 : Int32) (h0 : Heap) (n0 : Nat) (Z0 : n0 ≤ h0.size) (hp : Addr) (ev : Int64) (y0 : Int64) (y1 : Int64) (E_ob : Exa Z h0 ob "com/example/facet/facet/regex/MinQueue") (g_ob : n0 ≤ ob) (g_hp : n0 ≤ hp) (F_heap : Fld Z h0 ob "com/example/facet/facet/regex/MinQueue" "heap" "[J" (.ref hp)) (F_size : Fld Z h0 ob "com/example/facet/facet/regex/MinQueue" "size" "I" (.int (2 : Int32))) (V_hp : AJ Z h0 hp (y0 :: y1 :: [])) (nho : hp ≠ ob) (hO : y0.toInt ≤ y1.toInt) (hev : ((x1 <<< ((32 : Int32) &&& 0x3f).toInt64) ||| x2.toInt64) = ev) :
    Con l Z (⟨"com/example/facet/facet/regex/MinQueue", "add", "(JI)V"⟩ : MethodName) prog_33_method_3_code 7 none ({ frames := 2, cells := 1, slots := 8, locals := 72 } : Room) #[(.ref ob), (.long x1), (.int x2)] h0 (fun v h L => v = none ∧ Fr n0 L ∧ Keep h0 h [ob, hp] ∧ ∃ (b : Addr) (k0 k1 k2 : Int64) (rs : List Int64), Fld Z h ob "com/example/facet/facet/regex/MinQueue" "heap" "[J" (.ref b) ∧ Fld Z h ob "com/example/facet/facet/regex/MinQueue" "size" "I" (.int (3 : Int32)) ∧ AJ Z h b (k0 :: k1 :: k2 :: rs) ∧ rs.length ≤ 5 ∧ (k0.toInt ≤ k1.toInt ∧ k0.toInt ≤ k2.toInt) ∧ (∀ f : Int64 → Nat, f k0 + f k1 + f k2 = f y0 + f y1 + f ev) ∧ b ≠ ob ∧ (b = hp ∨ h0.size ≤ b)) := by
  refine Con.of (plainFor_of_name (by first | (simp [plainName, overriddenIn]; done) | decide +kernel)) ?_
  intro p e s m below meth c T X hx hZ hby hml hown hnm hret hlk e0
  rw [ef_6]
  have N0 := Fr.nil n0
  have KP0 := Keep.refl h0 [ob, hp]
  show Go p e below s 1 8 (fun v h L => v = none ∧ Fr n0 L ∧ Keep h0 h [ob, hp] ∧ ∃ (b : Addr) (k0 k1 k2 : Int64) (rs : List Int64), Fld Z h ob "com/example/facet/facet/regex/MinQueue" "heap" "[J" (.ref b) ∧ Fld Z h ob "com/example/facet/facet/regex/MinQueue" "size" "I" (.int (3 : Int32)) ∧ AJ Z h b (k0 :: k1 :: k2 :: rs) ∧ rs.length ≤ 5 ∧ (k0.toInt ≤ k1.toInt ∧ k0.toInt ≤ k2.toInt) ∧ (∀ f : Int64 → Nat, f k0 + f k1 + f k2 = f y0 + f y1 + f ev) ∧ b ≠ ob ∧ (b = hp ∨ h0.size ≤ b)) T (mkF m 0 #[.val (.ref ob), .val (.long x1), .second, .val (.int x2), .unset, .unset, .unset] [])
  refine w_aloadN X hx (hb hby d6_0) (pc' := 1) rfl rfl rfl ?_
  refine w_getF X hx hZ hown e0 F_size (hw _ (List.mem_of_getElem? (i := 30) rfl)) (hb hby d6_1) (pc' := 4) rfl (fun T122 X122 e122 => ?_)
  refine w_aloadN X122 hx (hb hby d6_4) (pc' := 5) rfl rfl rfl ?_
  refine w_getF X122 hx hZ hown e122 F_heap (hw _ (List.mem_of_getElem? (i := 19) rfl)) (hb hby d6_5) (pc' := 8) rfl (fun T123 X123 e123 => ?_)
  refine w_alenJ X123 hx hZ e123 V_hp (n := (2 : Int32)) rfl (hb hby d6_8) (pc' := 9) rfl ?_
  have hf9 : (2 : Int32) = (2 : Int32) := (by decide)
  refine w_icmp_ne X123 hx (hb hby d6_9) (pf := 12) (pt := 29) rfl (by decide) (by decide) (fun hc => absurd hf9 hc) (fun hc9 => ?_)
  refine w_aloadN X123 hx (hb hby d6_12) (pc' := 13) rfl rfl rfl ?_
  refine w_aloadN X123 hx (hb hby d6_13) (pc' := 14) rfl rfl rfl ?_
  refine w_getF X123 hx hZ hown e123 F_heap (hw _ (List.mem_of_getElem? (i := 19) rfl)) (hb hby d6_14) (pc' := 17) rfl (fun T124 X124 e124 => ?_)
  refine w_iconst (v := 2) X124 hx (hb hby d6_17) (pc' := 18) rfl rfl ?_
  refine w_aloadN X124 hx (hb hby d6_18) (pc' := 19) rfl rfl rfl ?_
  refine w_getF X124 hx hZ hown e124 F_size (hw _ (List.mem_of_getElem? (i := 30) rfl)) (hb hby d6_19) (pc' := 22) rfl (fun T125 X125 e125 => ?_)
  refine w_imul X125 hx (hb hby d6_22) (pc' := 23) rfl ?_
  rw [show ((2 : Int32) * (2 : Int32)) = (4 : Int32) from by decide]
  refine w_callS (argsL := [(.ref hp), (.int (4 : Int32))]) (rest := [(.ref ob)]) X125 hx hZ hown e125 (rm7 l Z a0 hw hp (4 : Int32) h0 n0 Z0 [y0, y1] V_hp (by simp) rfl) (hw _ (List.mem_of_getElem? (i := 32) rfl)) (hw _ (List.mem_of_getElem? (i := 33) rfl)) (hw _ (List.mem_of_getElem? (i := 34) rfl)) (hw _ (List.mem_of_getElem? (i := 35) rfl)) (by decide) (by decide) (W := 1) (by decide) (by decide) (by decide) (by rw [hml]; rfl) (lenOf pd_1 rfl) (Nat.le_refl _) rfl (hb hby d6_23) (pc' := 26) rfl (fun T126 L126 v126 X126 hQ126 => ?_)
  obtain ⟨b126, rfl, N126q, K126, sz126, V126⟩ := hQ126
  have zn126 : n0 ≤ T126.heap.size := Nat.le_trans Z0 K126.1
  have KP126 := KP0.trans K126 all0
  have g_b126 : n0 ≤ b126 := Nat.le_trans Z0 sz126
  have sz_b126 : h0.size ≤ b126 := Nat.le_trans KP0.1 sz126
  have ne_ob_b126 : ob ≠ b126 := Nat.ne_of_lt (Nat.lt_of_lt_of_le E_ob.lt sz126)
  have ne_hp_b126 : hp ≠ b126 := Nat.ne_of_lt (Nat.lt_of_lt_of_le V_hp.lt sz126)
  have N126 := Fr.app N0 N126q
  have X126 : Stand p l e ({ frames := 2, cells := 1, slots := 8, locals := 72 } : Room) s m _ below meth c T126 _ 1 8 := X126
  have V126 : AJ Z T126.heap b126 [y0, y1, (0 : Int64), (0 : Int64)] := V126
  show Go p e below s 1 8 (fun v h L => v = none ∧ Fr n0 L ∧ Keep h0 h [ob, hp] ∧ ∃ (b : Addr) (k0 k1 k2 : Int64) (rs : List Int64), Fld Z h ob "com/example/facet/facet/regex/MinQueue" "heap" "[J" (.ref b) ∧ Fld Z h ob "com/example/facet/facet/regex/MinQueue" "size" "I" (.int (3 : Int32)) ∧ AJ Z h b (k0 :: k1 :: k2 :: rs) ∧ rs.length ≤ 5 ∧ (k0.toInt ≤ k1.toInt ∧ k0.toInt ≤ k2.toInt) ∧ (∀ f : Int64 → Nat, f k0 + f k1 + f k2 = f y0 + f y1 + f ev) ∧ b ≠ ob ∧ (b = hp ∨ h0.size ≤ b)) T126 (mkF m 26 #[.val (.ref ob), .val (.long x1), .second, .val (.int x2), .unset, .unset, .unset] [(.ref b126), (.ref ob)])
  have f127 := F_heap.keep K126 nin0
  have f128 := E_ob.keep K126
  refine w_putF X126 hx hZ hown rfl f127 f128 (hw _ (List.mem_of_getElem? (i := 19) rfl)) (Or.inl (hw _ (List.mem_of_getElem? (i := 20) rfl))) (hw _ (List.mem_of_getElem? (i := 7) rfl)) (ty := (.array .long)) (by decide) rfl rfl (hb hby d6_26) (pc' := 29) rfl (fun T129 h129 X129 e129 W129 => ?_)
  have F129 := f127.same W129
  have KP129 := KP126.wr W129 (Or.inl (by simp))
  have N129 := Fr.snoc X129 N126 g_ob
  have zn129 : n0 ≤ h129.size := by rw [W129.size]; exact zn126
  refine w_lloadN X129 hx (hb hby d6_29) (pc' := 30) rfl rfl ?_
  refine w_bipush (v := 32) X129 hx (hb hby d6_30) (pc' := 32) rfl rfl ?_
  refine w_lshl X129 hx (hb hby d6_32) (pc' := 33) rfl ?_
  refine w_iloadN X129 hx (hb hby d6_33) (pc' := 34) rfl rfl ?_
  refine w_i2l X129 hx (hb hby d6_34) (pc' := 35) rfl ?_
  refine w_lor X129 hx (hb hby d6_35) (pc' := 36) rfl ?_
  refine w_lstore (Ls' := #[.val (.ref ob), .val (.long x1), .second, .val (.int x2), .val (.long ((x1 <<< ((32 : Int32) &&& 0x3f).toInt64) ||| x2.toInt64)), .second, .unset]) X129 hx (hb hby d6_36) (pc' := 38) rfl rfl ?_
  rw [hev]
  refine w_aloadN X129 hx (hb hby d6_38) (pc' := 39) rfl rfl rfl ?_
  have f130 := F_size.keep K126 nin0
  have f131 := f130.other W129 (Or.inr (slot_ne (Or.inl (hw _ (List.mem_of_getElem? (i := 31) rfl))) (Or.inl (hw _ (List.mem_of_getElem? (i := 20) rfl))) (by decide) (t := .int) (t' := (.array .long)) (by decide) (by decide)))
  refine w_getF X129 hx hZ hown e129 f131 (hw _ (List.mem_of_getElem? (i := 30) rfl)) (hb hby d6_39) (pc' := 42) rfl (fun T132 X132 e132 => ?_)
  refine w_istore (Ls' := #[.val (.ref ob), .val (.long x1), .second, .val (.int x2), .val (.long ev), .second, .val (.int (2 : Int32))]) X132 hx (hb hby d6_42) (pc' := 44) rfl rfl ?_
  refine w_aloadN X132 hx (hb hby d6_44) (pc' := 45) rfl rfl rfl ?_
  refine w_dup X132 hx (hb hby d6_45) (pc' := 46) rfl rfl ?_
  refine w_getF X132 hx hZ hown e132 f131 (hw _ (List.mem_of_getElem? (i := 30) rfl)) (hb hby d6_46) (pc' := 49) rfl (fun T133 X133 e133 => ?_)
  refine w_iconst (v := 1) X133 hx (hb hby d6_49) (pc' := 50) rfl rfl ?_
  refine w_iadd X133 hx (hb hby d6_50) (pc' := 51) rfl ?_
  rw [show ((2 : Int32) + (1 : Int32)) = (3 : Int32) from by decide]
  have f134 := f128.wr W129
  refine w_putF X133 hx hZ hown e133 f131 f134 (hw _ (List.mem_of_getElem? (i := 30) rfl)) (Or.inl (hw _ (List.mem_of_getElem? (i := 31) rfl))) (hw _ (List.mem_of_getElem? (i := 7) rfl)) (ty := .int) (by decide) rfl rfl (hb hby d6_51) (pc' := 54) rfl (fun T135 h135 X135 e135 W135 => ?_)
  have F135 := f131.same W135
  have KP135 := KP129.wr W135 (Or.inl (by simp))
  have N135 := Fr.snoc X135 N129 g_ob
  have zn135 : n0 ≤ h135.size := by rw [W135.size]; exact zn129
  refine w_iload X135 hx (hb hby d6_54) (pc' := 56) rfl rfl ?_
  have hf56 : (0 : Int32) < (2 : Int32) := (by decide)
  refine w_if_le X135 hx (hb hby d6_56) (pf := 59) (pt := 105) rfl (by decide) (by decide) (fun hc => absurd hf56 hc) (fun hc56 => ?_)
  refine w_aloadN X135 hx (hb hby d6_59) (pc' := 60) rfl rfl rfl ?_
  have f136 := F129.other W135 (Or.inr (slot_ne (Or.inl (hw _ (List.mem_of_getElem? (i := 20) rfl))) (Or.inl (hw _ (List.mem_of_getElem? (i := 31) rfl))) (by decide) (t := (.array .long)) (t' := .int) (by decide) (by decide)))
  refine w_getF X135 hx hZ hown e135 f136 (hw _ (List.mem_of_getElem? (i := 19) rfl)) (hb hby d6_60) (pc' := 63) rfl (fun T137 X137 e137 => ?_)
  refine w_iload X137 hx (hb hby d6_63) (pc' := 65) rfl rfl ?_
  refine w_iconst (v := 1) X137 hx (hb hby d6_65) (pc' := 66) rfl rfl ?_
  refine w_isub X137 hx (hb hby d6_66) (pc' := 67) rfl ?_
  rw [show ((2 : Int32) - (1 : Int32)) = (1 : Int32) from by decide]
  refine w_iconst (v := 1) X137 hx (hb hby d6_67) (pc' := 68) rfl rfl ?_
  refine w_iushr X137 hx (hb hby d6_68) (pc' := 69) rfl ?_
  rw [show (jushr (1 : Int32) (1 : Int32)) = (0 : Int32) from by decide]
  have f138 := V126.other W129 (Ne.symm ne_ob_b126)
  have f139 := f138.other W135 (Ne.symm ne_ob_b126)
  refine w_laload X137 hx hZ e137 f139 (v := y0) (by decide) rfl (hb hby d6_69) (pc' := 70) rfl ?_
  refine w_lload X137 hx (hb hby d6_70) (pc' := 72) rfl rfl ?_
  refine w_lcmp X137 hx (hb hby d6_72) (pc' := 73) rfl ?_
  refine w_ifL_le X137 hx (hb hby d6_73) (pf := 76) (pt := 105) rfl (by decide) (by decide) (fun hc73 => ?_) (fun hc73 => ?_)
  · have hz144 := mt Int64.lt_iff_toInt_lt.mpr hc73
    refine w_aloadN X137 hx (hb hby d6_105) (pc' := 106) rfl rfl rfl ?_
    refine w_getF X137 hx hZ hown e137 f136 (hw _ (List.mem_of_getElem? (i := 19) rfl)) (hb hby d6_106) (pc' := 109) rfl (fun T140 X140 e140 => ?_)
    refine w_iload X140 hx (hb hby d6_109) (pc' := 111) rfl rfl ?_
    refine w_lload X140 hx (hb hby d6_111) (pc' := 113) rfl rfl ?_
    refine w_lastore X140 hx hZ e140 f139 (by decide) (by show _ < 4; decide) (hb hby d6_113) (pc' := 114) rfl (fun T141 h141 X141 e141 W141 V141 => ?_)
    have V141 : AJ Z h141 b126 [y0, y1, ev, (0 : Int64)] := V141
    have KP141 := KP135.wr W141 (Or.inr sz_b126)
    have N141 := Fr.snoc X141 N135 g_b126
    have zn141 : n0 ≤ h141.size := by rw [W141.size]; exact zn135
    have f142 := f136.other W141 (Or.inl ne_ob_b126)
    have f143 := F135.other W141 (Or.inl ne_ob_b126)
    exact w_retV X141 hx hret hlk (hb hby d6_114) (by decide) (by decide) (by rw [e141]; exact ⟨rfl, N141, KP141, b126, y0, y1, ev, [(0 : Int64)], f142, f143, V141, (by decide), (by omega), (fun f => by omega), (Ne.symm ne_ob_b126), Or.inr sz_b126⟩)
  · have hz154 := Int64.lt_iff_toInt_lt.mp hc73
    refine w_aloadN X137 hx (hb hby d6_76) (pc' := 77) rfl rfl rfl ?_
    refine w_getF X137 hx hZ hown e137 f136 (hw _ (List.mem_of_getElem? (i := 19) rfl)) (hb hby d6_77) (pc' := 80) rfl (fun T145 X145 e145 => ?_)
    refine w_iload X145 hx (hb hby d6_80) (pc' := 82) rfl rfl ?_
    refine w_aloadN X145 hx (hb hby d6_82) (pc' := 83) rfl rfl rfl ?_
    refine w_getF X145 hx hZ hown e145 f136 (hw _ (List.mem_of_getElem? (i := 19) rfl)) (hb hby d6_83) (pc' := 86) rfl (fun T146 X146 e146 => ?_)
    refine w_iload X146 hx (hb hby d6_86) (pc' := 88) rfl rfl ?_
    refine w_iconst (v := 1) X146 hx (hb hby d6_88) (pc' := 89) rfl rfl ?_
    refine w_isub X146 hx (hb hby d6_89) (pc' := 90) rfl ?_
    rw [show ((2 : Int32) - (1 : Int32)) = (1 : Int32) from by decide]
    refine w_iconst (v := 1) X146 hx (hb hby d6_90) (pc' := 91) rfl rfl ?_
    refine w_iushr X146 hx (hb hby d6_91) (pc' := 92) rfl ?_
    rw [show (jushr (1 : Int32) (1 : Int32)) = (0 : Int32) from by decide]
    refine w_laload X146 hx hZ e146 f139 (v := y0) (by decide) rfl (hb hby d6_92) (pc' := 93) rfl ?_
    refine w_lastore X146 hx hZ e146 f139 (by decide) (by show _ < 4; decide) (hb hby d6_93) (pc' := 94) rfl (fun T147 h147 X147 e147 W147 V147 => ?_)
    have V147 : AJ Z h147 b126 [y0, y1, y0, (0 : Int64)] := V147
    have KP147 := KP135.wr W147 (Or.inr sz_b126)
    have N147 := Fr.snoc X147 N135 g_b126
    have zn147 : n0 ≤ h147.size := by rw [W147.size]; exact zn135
    refine w_iload X147 hx (hb hby d6_94) (pc' := 96) rfl rfl ?_
    refine w_iconst (v := 1) X147 hx (hb hby d6_96) (pc' := 97) rfl rfl ?_
    refine w_isub X147 hx (hb hby d6_97) (pc' := 98) rfl ?_
    rw [show ((2 : Int32) - (1 : Int32)) = (1 : Int32) from by decide]
    refine w_iconst (v := 1) X147 hx (hb hby d6_98) (pc' := 99) rfl rfl ?_
    refine w_iushr X147 hx (hb hby d6_99) (pc' := 100) rfl ?_
    rw [show (jushr (1 : Int32) (1 : Int32)) = (0 : Int32) from by decide]
    refine w_istore (Ls' := #[.val (.ref ob), .val (.long x1), .second, .val (.int x2), .val (.long ev), .second, .val (.int (0 : Int32))]) X147 hx (hb hby d6_100) (pc' := 102) rfl rfl ?_
    refine w_goto X147 hx (hb hby d6_102) (pc' := 54) (by decide) (by decide) ?_
    refine w_iload X147 hx (hb hby d6_54) (pc' := 56) rfl rfl ?_
    have hf56 : ¬ ((0 : Int32) < (0 : Int32)) := (by decide)
    refine w_if_le X147 hx (hb hby d6_56) (pf := 59) (pt := 105) rfl (by decide) (by decide) (fun hc56 => ?_) (fun hc => absurd hc hf56)
    refine w_aloadN X147 hx (hb hby d6_105) (pc' := 106) rfl rfl rfl ?_
    have f148 := f136.other W147 (Or.inl ne_ob_b126)
    refine w_getF X147 hx hZ hown e147 f148 (hw _ (List.mem_of_getElem? (i := 19) rfl)) (hb hby d6_106) (pc' := 109) rfl (fun T149 X149 e149 => ?_)
    refine w_iload X149 hx (hb hby d6_109) (pc' := 111) rfl rfl ?_
    refine w_lload X149 hx (hb hby d6_111) (pc' := 113) rfl rfl ?_
    refine w_lastore X149 hx hZ e149 V147 (by decide) (by show _ < 4; decide) (hb hby d6_113) (pc' := 114) rfl (fun T150 h150 X150 e150 W150 V150 => ?_)
    have V150 : AJ Z h150 b126 [ev, y1, y0, (0 : Int64)] := V150
    have KP150 := KP147.wr W150 (Or.inr sz_b126)
    have N150 := Fr.snoc X150 N147 g_b126
    have zn150 : n0 ≤ h150.size := by rw [W150.size]; exact zn147
    have f151 := f148.other W150 (Or.inl ne_ob_b126)
    have f152 := F135.other W147 (Or.inl ne_ob_b126)
    have f153 := f152.other W150 (Or.inl ne_ob_b126)
    exact w_retV X150 hx hret hlk (hb hby d6_114) (by decide) (by decide) (by rw [e150]; exact ⟨rfl, N150, KP150, b126, ev, y1, y0, [(0 : Int64)], f151, f153, V150, (by decide), (by omega), (fun f => by omega), (Ne.symm ne_ob_b126), Or.inr sz_b126⟩)
theorem rm6_2 (l : Launch) (Z : State) (a0 : Array Value) (hw : ∀ d ∈ tables_1, d.before a0 Z = true) (ob : Addr) (x1 : Int64) (x2 : Int32) (h0 : Heap) (n0 : Nat) (Z0 : n0 ≤ h0.size) (hp : Addr) (ev : Int64) (y0 : Int64) (y1 : Int64) (rest : List Int64) (E_ob : Exa Z h0 ob "com/example/facet/facet/regex/MinQueue") (g_ob : n0 ≤ ob) (g_hp : n0 ≤ hp) (F_heap : Fld Z h0 ob "com/example/facet/facet/regex/MinQueue" "heap" "[J" (.ref hp)) (F_size : Fld Z h0 ob "com/example/facet/facet/regex/MinQueue" "size" "I" (.int (2 : Int32))) (V_hp : AJ Z h0 hp (y0 :: y1 :: rest)) (nho : hp ≠ ob) (hO : y0.toInt ≤ y1.toInt) (hev : ((x1 <<< ((32 : Int32) &&& 0x3f).toInt64) ||| x2.toInt64) = ev) (hrl : rest.length ≤ 6) :
    Con l Z (⟨"com/example/facet/facet/regex/MinQueue", "add", "(JI)V"⟩ : MethodName) prog_33_method_3_code 7 none ({ frames := 2, cells := 1, slots := 8, locals := 72 } : Room) #[.ref ob, .long x1, .int x2] h0 (fun v h L => v = none ∧ Fr n0 L ∧ Keep h0 h [ob, hp] ∧ ∃ (b : Addr) (k0 k1 k2 : Int64) (rs : List Int64), Fld Z h ob "com/example/facet/facet/regex/MinQueue" "heap" "[J" (.ref b) ∧ Fld Z h ob "com/example/facet/facet/regex/MinQueue" "size" "I" (.int (3 : Int32)) ∧ AJ Z h b (k0 :: k1 :: k2 :: rs) ∧ rs.length ≤ 5 ∧ (k0.toInt ≤ k1.toInt ∧ k0.toInt ≤ k2.toInt) ∧ (∀ f : Int64 → Nat, f k0 + f k1 + f k2 = f y0 + f y1 + f ev) ∧ b ≠ ob ∧ (b = hp ∨ h0.size ≤ b)) := by
  cases rest with
  | nil => exact rm6f_2 l Z a0 hw ob x1 x2 h0 n0 Z0 hp ev y0 y1 E_ob g_ob g_hp F_heap F_size V_hp nho hO hev
  | cons r rest => exact rm6r_2 l Z a0 hw ob x1 x2 h0 n0 Z0 hp ev y0 y1 r rest E_ob g_ob g_hp F_heap F_size V_hp nho hO hev (by simp at hrl; omega)
set_option maxRecDepth 65536 in
set_option maxHeartbeats 40000000 in
theorem rm6r_3 (l : Launch) (Z : State) (a0 : Array Value) (hw : ∀ d ∈ tables_1, d.before a0 Z = true) (ob : Addr) (x1 : Int64) (x2 : Int32) (h0 : Heap) (n0 : Nat) (Z0 : n0 ≤ h0.size) (hp : Addr) (ev : Int64) (y0 : Int64) (y1 : Int64) (y2 : Int64) (r : Int64) (rest : List Int64) (E_ob : Exa Z h0 ob "com/example/facet/facet/regex/MinQueue") (g_ob : n0 ≤ ob) (g_hp : n0 ≤ hp) (F_heap : Fld Z h0 ob "com/example/facet/facet/regex/MinQueue" "heap" "[J" (.ref hp)) (F_size : Fld Z h0 ob "com/example/facet/facet/regex/MinQueue" "size" "I" (.int (3 : Int32))) (V_hp : AJ Z h0 hp (y0 :: y1 :: y2 :: r :: rest)) (nho : hp ≠ ob) (hO : y0.toInt ≤ y1.toInt ∧ y0.toInt ≤ y2.toInt) (hev : ((x1 <<< ((32 : Int32) &&& 0x3f).toInt64) ||| x2.toInt64) = ev) (hrl : rest.length ≤ 4) :
    Con l Z (⟨"com/example/facet/facet/regex/MinQueue", "add", "(JI)V"⟩ : MethodName) prog_33_method_3_code 7 none ({ frames := 2, cells := 1, slots := 8, locals := 72 } : Room) #[(.ref ob), (.long x1), (.int x2)] h0 (fun v h L => v = none ∧ Fr n0 L ∧ Keep h0 h [ob, hp] ∧ ∃ (b : Addr) (k0 k1 k2 k3 : Int64) (rs : List Int64), Fld Z h ob "com/example/facet/facet/regex/MinQueue" "heap" "[J" (.ref b) ∧ Fld Z h ob "com/example/facet/facet/regex/MinQueue" "size" "I" (.int (4 : Int32)) ∧ AJ Z h b (k0 :: k1 :: k2 :: k3 :: rs) ∧ rs.length ≤ 4 ∧ (k0.toInt ≤ k1.toInt ∧ k0.toInt ≤ k2.toInt ∧ k1.toInt ≤ k3.toInt) ∧ (∀ f : Int64 → Nat, f k0 + f k1 + f k2 + f k3 = f y0 + f y1 + f y2 + f ev) ∧ b ≠ ob ∧ (b = hp ∨ h0.size ≤ b)) := by
  refine Con.of (plainFor_of_name (by first | (simp [plainName, overriddenIn]; done) | decide +kernel)) ?_
  intro p e s m below meth c T X hx hZ hby hml hown hnm hret hlk e0
  rw [ef_6]
  have N0 := Fr.nil n0
  have KP0 := Keep.refl h0 [ob, hp]
  show Go p e below s 1 8 (fun v h L => v = none ∧ Fr n0 L ∧ Keep h0 h [ob, hp] ∧ ∃ (b : Addr) (k0 k1 k2 k3 : Int64) (rs : List Int64), Fld Z h ob "com/example/facet/facet/regex/MinQueue" "heap" "[J" (.ref b) ∧ Fld Z h ob "com/example/facet/facet/regex/MinQueue" "size" "I" (.int (4 : Int32)) ∧ AJ Z h b (k0 :: k1 :: k2 :: k3 :: rs) ∧ rs.length ≤ 4 ∧ (k0.toInt ≤ k1.toInt ∧ k0.toInt ≤ k2.toInt ∧ k1.toInt ≤ k3.toInt) ∧ (∀ f : Int64 → Nat, f k0 + f k1 + f k2 + f k3 = f y0 + f y1 + f y2 + f ev) ∧ b ≠ ob ∧ (b = hp ∨ h0.size ≤ b)) T (mkF m 0 #[.val (.ref ob), .val (.long x1), .second, .val (.int x2), .unset, .unset, .unset] [])
  refine w_aloadN X hx (hb hby d6_0) (pc' := 1) rfl rfl rfl ?_
  refine w_getF X hx hZ hown e0 F_size (hw _ (List.mem_of_getElem? (i := 30) rfl)) (hb hby d6_1) (pc' := 4) rfl (fun T155 X155 e155 => ?_)
  refine w_aloadN X155 hx (hb hby d6_4) (pc' := 5) rfl rfl rfl ?_
  refine w_getF X155 hx hZ hown e155 F_heap (hw _ (List.mem_of_getElem? (i := 19) rfl)) (hb hby d6_5) (pc' := 8) rfl (fun T156 X156 e156 => ?_)
  refine w_alenJ X156 hx hZ e156 V_hp (n := ((rest.length + 1 + 1 + 1 + 1).toInt32)) rfl (hb hby d6_8) (pc' := 9) rfl ?_
  have hf9 : ¬ ((3 : Int32) = ((rest.length + 1 + 1 + 1 + 1).toInt32)) := fun q => absurd ((own_ieq (a := 3) (by decide) (by omega)).1 q) (by omega)
  refine w_icmp_ne X156 hx (hb hby d6_9) (pf := 12) (pt := 29) rfl (by decide) (by decide) (fun hc9 => ?_) (fun hc => absurd hc hf9)
  refine w_lloadN X156 hx (hb hby d6_29) (pc' := 30) rfl rfl ?_
  refine w_bipush (v := 32) X156 hx (hb hby d6_30) (pc' := 32) rfl rfl ?_
  refine w_lshl X156 hx (hb hby d6_32) (pc' := 33) rfl ?_
  refine w_iloadN X156 hx (hb hby d6_33) (pc' := 34) rfl rfl ?_
  refine w_i2l X156 hx (hb hby d6_34) (pc' := 35) rfl ?_
  refine w_lor X156 hx (hb hby d6_35) (pc' := 36) rfl ?_
  refine w_lstore (Ls' := #[.val (.ref ob), .val (.long x1), .second, .val (.int x2), .val (.long ((x1 <<< ((32 : Int32) &&& 0x3f).toInt64) ||| x2.toInt64)), .second, .unset]) X156 hx (hb hby d6_36) (pc' := 38) rfl rfl ?_
  rw [hev]
  refine w_aloadN X156 hx (hb hby d6_38) (pc' := 39) rfl rfl rfl ?_
  refine w_getF X156 hx hZ hown e156 F_size (hw _ (List.mem_of_getElem? (i := 30) rfl)) (hb hby d6_39) (pc' := 42) rfl (fun T157 X157 e157 => ?_)
  refine w_istore (Ls' := #[.val (.ref ob), .val (.long x1), .second, .val (.int x2), .val (.long ev), .second, .val (.int (3 : Int32))]) X157 hx (hb hby d6_42) (pc' := 44) rfl rfl ?_
  refine w_aloadN X157 hx (hb hby d6_44) (pc' := 45) rfl rfl rfl ?_
  refine w_dup X157 hx (hb hby d6_45) (pc' := 46) rfl rfl ?_
  refine w_getF X157 hx hZ hown e157 F_size (hw _ (List.mem_of_getElem? (i := 30) rfl)) (hb hby d6_46) (pc' := 49) rfl (fun T158 X158 e158 => ?_)
  refine w_iconst (v := 1) X158 hx (hb hby d6_49) (pc' := 50) rfl rfl ?_
  refine w_iadd X158 hx (hb hby d6_50) (pc' := 51) rfl ?_
  rw [show ((3 : Int32) + (1 : Int32)) = (4 : Int32) from by decide]
  refine w_putF X158 hx hZ hown e158 F_size E_ob (hw _ (List.mem_of_getElem? (i := 30) rfl)) (Or.inl (hw _ (List.mem_of_getElem? (i := 31) rfl))) (hw _ (List.mem_of_getElem? (i := 7) rfl)) (ty := .int) (by decide) rfl rfl (hb hby d6_51) (pc' := 54) rfl (fun T159 h159 X159 e159 W159 => ?_)
  have F159 := F_size.same W159
  have KP159 := KP0.wr W159 (Or.inl (by simp))
  have N159 := Fr.snoc X159 N0 g_ob
  have zn159 : n0 ≤ h159.size := by rw [W159.size]; exact Z0
  refine w_iload X159 hx (hb hby d6_54) (pc' := 56) rfl rfl ?_
  have hf56 : (0 : Int32) < (3 : Int32) := (by decide)
  refine w_if_le X159 hx (hb hby d6_56) (pf := 59) (pt := 105) rfl (by decide) (by decide) (fun hc => absurd hf56 hc) (fun hc56 => ?_)
  refine w_aloadN X159 hx (hb hby d6_59) (pc' := 60) rfl rfl rfl ?_
  have f160 := F_heap.other W159 (Or.inr (slot_ne (Or.inl (hw _ (List.mem_of_getElem? (i := 20) rfl))) (Or.inl (hw _ (List.mem_of_getElem? (i := 31) rfl))) (by decide) (t := (.array .long)) (t' := .int) (by decide) (by decide)))
  refine w_getF X159 hx hZ hown e159 f160 (hw _ (List.mem_of_getElem? (i := 19) rfl)) (hb hby d6_60) (pc' := 63) rfl (fun T161 X161 e161 => ?_)
  refine w_iload X161 hx (hb hby d6_63) (pc' := 65) rfl rfl ?_
  refine w_iconst (v := 1) X161 hx (hb hby d6_65) (pc' := 66) rfl rfl ?_
  refine w_isub X161 hx (hb hby d6_66) (pc' := 67) rfl ?_
  rw [show ((3 : Int32) - (1 : Int32)) = (2 : Int32) from by decide]
  refine w_iconst (v := 1) X161 hx (hb hby d6_67) (pc' := 68) rfl rfl ?_
  refine w_iushr X161 hx (hb hby d6_68) (pc' := 69) rfl ?_
  rw [show (jushr (2 : Int32) (1 : Int32)) = (1 : Int32) from by decide]
  have f162 := V_hp.other W159 nho
  refine w_laload X161 hx hZ e161 f162 (v := y1) (by decide) rfl (hb hby d6_69) (pc' := 70) rfl ?_
  refine w_lload X161 hx (hb hby d6_70) (pc' := 72) rfl rfl ?_
  refine w_lcmp X161 hx (hb hby d6_72) (pc' := 73) rfl ?_
  refine w_ifL_le X161 hx (hb hby d6_73) (pf := 76) (pt := 105) rfl (by decide) (by decide) (fun hc73 => ?_) (fun hc73 => ?_)
  · have hz167 := mt Int64.lt_iff_toInt_lt.mpr hc73
    refine w_aloadN X161 hx (hb hby d6_105) (pc' := 106) rfl rfl rfl ?_
    refine w_getF X161 hx hZ hown e161 f160 (hw _ (List.mem_of_getElem? (i := 19) rfl)) (hb hby d6_106) (pc' := 109) rfl (fun T163 X163 e163 => ?_)
    refine w_iload X163 hx (hb hby d6_109) (pc' := 111) rfl rfl ?_
    refine w_lload X163 hx (hb hby d6_111) (pc' := 113) rfl rfl ?_
    refine w_lastore X163 hx hZ e163 f162 (by decide) (by show (3 : Nat) < rest.length + 1 + 1 + 1 + 1; omega) (hb hby d6_113) (pc' := 114) rfl (fun T164 h164 X164 e164 W164 V164 => ?_)
    have V164 : AJ Z h164 hp (y0 :: y1 :: y2 :: ev :: rest) := V164
    have KP164 := KP159.wr W164 (Or.inl (by simp))
    have N164 := Fr.snoc X164 N159 g_hp
    have zn164 : n0 ≤ h164.size := by rw [W164.size]; exact zn159
    have f165 := f160.other W164 (Or.inl (Ne.symm nho))
    have f166 := F159.other W164 (Or.inl (Ne.symm nho))
    exact w_retV X164 hx hret hlk (hb hby d6_114) (by decide) (by decide) (by rw [e164]; exact ⟨rfl, N164, KP164, hp, y0, y1, y2, ev, rest, f165, f166, V164, hrl, (by omega), (fun f => by omega), nho, Or.inl rfl⟩)
  · have hz190 := Int64.lt_iff_toInt_lt.mp hc73
    refine w_aloadN X161 hx (hb hby d6_76) (pc' := 77) rfl rfl rfl ?_
    refine w_getF X161 hx hZ hown e161 f160 (hw _ (List.mem_of_getElem? (i := 19) rfl)) (hb hby d6_77) (pc' := 80) rfl (fun T168 X168 e168 => ?_)
    refine w_iload X168 hx (hb hby d6_80) (pc' := 82) rfl rfl ?_
    refine w_aloadN X168 hx (hb hby d6_82) (pc' := 83) rfl rfl rfl ?_
    refine w_getF X168 hx hZ hown e168 f160 (hw _ (List.mem_of_getElem? (i := 19) rfl)) (hb hby d6_83) (pc' := 86) rfl (fun T169 X169 e169 => ?_)
    refine w_iload X169 hx (hb hby d6_86) (pc' := 88) rfl rfl ?_
    refine w_iconst (v := 1) X169 hx (hb hby d6_88) (pc' := 89) rfl rfl ?_
    refine w_isub X169 hx (hb hby d6_89) (pc' := 90) rfl ?_
    rw [show ((3 : Int32) - (1 : Int32)) = (2 : Int32) from by decide]
    refine w_iconst (v := 1) X169 hx (hb hby d6_90) (pc' := 91) rfl rfl ?_
    refine w_iushr X169 hx (hb hby d6_91) (pc' := 92) rfl ?_
    rw [show (jushr (2 : Int32) (1 : Int32)) = (1 : Int32) from by decide]
    refine w_laload X169 hx hZ e169 f162 (v := y1) (by decide) rfl (hb hby d6_92) (pc' := 93) rfl ?_
    refine w_lastore X169 hx hZ e169 f162 (by decide) (by show (3 : Nat) < rest.length + 1 + 1 + 1 + 1; omega) (hb hby d6_93) (pc' := 94) rfl (fun T170 h170 X170 e170 W170 V170 => ?_)
    have V170 : AJ Z h170 hp (y0 :: y1 :: y2 :: y1 :: rest) := V170
    have KP170 := KP159.wr W170 (Or.inl (by simp))
    have N170 := Fr.snoc X170 N159 g_hp
    have zn170 : n0 ≤ h170.size := by rw [W170.size]; exact zn159
    refine w_iload X170 hx (hb hby d6_94) (pc' := 96) rfl rfl ?_
    refine w_iconst (v := 1) X170 hx (hb hby d6_96) (pc' := 97) rfl rfl ?_
    refine w_isub X170 hx (hb hby d6_97) (pc' := 98) rfl ?_
    rw [show ((3 : Int32) - (1 : Int32)) = (2 : Int32) from by decide]
    refine w_iconst (v := 1) X170 hx (hb hby d6_98) (pc' := 99) rfl rfl ?_
    refine w_iushr X170 hx (hb hby d6_99) (pc' := 100) rfl ?_
    rw [show (jushr (2 : Int32) (1 : Int32)) = (1 : Int32) from by decide]
    refine w_istore (Ls' := #[.val (.ref ob), .val (.long x1), .second, .val (.int x2), .val (.long ev), .second, .val (.int (1 : Int32))]) X170 hx (hb hby d6_100) (pc' := 102) rfl rfl ?_
    refine w_goto X170 hx (hb hby d6_102) (pc' := 54) (by decide) (by decide) ?_
    refine w_iload X170 hx (hb hby d6_54) (pc' := 56) rfl rfl ?_
    have hf56 : (0 : Int32) < (1 : Int32) := (by decide)
    refine w_if_le X170 hx (hb hby d6_56) (pf := 59) (pt := 105) rfl (by decide) (by decide) (fun hc => absurd hf56 hc) (fun hc56 => ?_)
    refine w_aloadN X170 hx (hb hby d6_59) (pc' := 60) rfl rfl rfl ?_
    have f171 := f160.other W170 (Or.inl (Ne.symm nho))
    refine w_getF X170 hx hZ hown e170 f171 (hw _ (List.mem_of_getElem? (i := 19) rfl)) (hb hby d6_60) (pc' := 63) rfl (fun T172 X172 e172 => ?_)
    refine w_iload X172 hx (hb hby d6_63) (pc' := 65) rfl rfl ?_
    refine w_iconst (v := 1) X172 hx (hb hby d6_65) (pc' := 66) rfl rfl ?_
    refine w_isub X172 hx (hb hby d6_66) (pc' := 67) rfl ?_
    rw [show ((1 : Int32) - (1 : Int32)) = (0 : Int32) from by decide]
    refine w_iconst (v := 1) X172 hx (hb hby d6_67) (pc' := 68) rfl rfl ?_
    refine w_iushr X172 hx (hb hby d6_68) (pc' := 69) rfl ?_
    rw [show (jushr (0 : Int32) (1 : Int32)) = (0 : Int32) from by decide]
    refine w_laload X172 hx hZ e172 V170 (v := y0) (by decide) rfl (hb hby d6_69) (pc' := 70) rfl ?_
    refine w_lload X172 hx (hb hby d6_70) (pc' := 72) rfl rfl ?_
    refine w_lcmp X172 hx (hb hby d6_72) (pc' := 73) rfl ?_
    refine w_ifL_le X172 hx (hb hby d6_73) (pf := 76) (pt := 105) rfl (by decide) (by decide) (fun hc73 => ?_) (fun hc73 => ?_)
    · have hz178 := mt Int64.lt_iff_toInt_lt.mpr hc73
      refine w_aloadN X172 hx (hb hby d6_105) (pc' := 106) rfl rfl rfl ?_
      refine w_getF X172 hx hZ hown e172 f171 (hw _ (List.mem_of_getElem? (i := 19) rfl)) (hb hby d6_106) (pc' := 109) rfl (fun T173 X173 e173 => ?_)
      refine w_iload X173 hx (hb hby d6_109) (pc' := 111) rfl rfl ?_
      refine w_lload X173 hx (hb hby d6_111) (pc' := 113) rfl rfl ?_
      refine w_lastore X173 hx hZ e173 V170 (by decide) (by show (1 : Nat) < rest.length + 1 + 1 + 1 + 1; omega) (hb hby d6_113) (pc' := 114) rfl (fun T174 h174 X174 e174 W174 V174 => ?_)
      have V174 : AJ Z h174 hp (y0 :: ev :: y2 :: y1 :: rest) := V174
      have KP174 := KP170.wr W174 (Or.inl (by simp))
      have N174 := Fr.snoc X174 N170 g_hp
      have zn174 : n0 ≤ h174.size := by rw [W174.size]; exact zn170
      have f175 := f171.other W174 (Or.inl (Ne.symm nho))
      have f176 := F159.other W170 (Or.inl (Ne.symm nho))
      have f177 := f176.other W174 (Or.inl (Ne.symm nho))
      exact w_retV X174 hx hret hlk (hb hby d6_114) (by decide) (by decide) (by rw [e174]; exact ⟨rfl, N174, KP174, hp, y0, ev, y2, y1, rest, f175, f177, V174, hrl, (by omega), (fun f => by omega), nho, Or.inl rfl⟩)
    · have hz189 := Int64.lt_iff_toInt_lt.mp hc73
      refine w_aloadN X172 hx (hb hby d6_76) (pc' := 77) rfl rfl rfl ?_
      refine w_getF X172 hx hZ hown e172 f171 (hw _ (List.mem_of_getElem? (i := 19) rfl)) (hb hby d6_77) (pc' := 80) rfl (fun T179 X179 e179 => ?_)
      refine w_iload X179 hx (hb hby d6_80) (pc' := 82) rfl rfl ?_
      refine w_aloadN X179 hx (hb hby d6_82) (pc' := 83) rfl rfl rfl ?_
      refine w_getF X179 hx hZ hown e179 f171 (hw _ (List.mem_of_getElem? (i := 19) rfl)) (hb hby d6_83) (pc' := 86) rfl (fun T180 X180 e180 => ?_)
      refine w_iload X180 hx (hb hby d6_86) (pc' := 88) rfl rfl ?_
      refine w_iconst (v := 1) X180 hx (hb hby d6_88) (pc' := 89) rfl rfl ?_
      refine w_isub X180 hx (hb hby d6_89) (pc' := 90) rfl ?_
      rw [show ((1 : Int32) - (1 : Int32)) = (0 : Int32) from by decide]
      refine w_iconst (v := 1) X180 hx (hb hby d6_90) (pc' := 91) rfl rfl ?_
      refine w_iushr X180 hx (hb hby d6_91) (pc' := 92) rfl ?_
      rw [show (jushr (0 : Int32) (1 : Int32)) = (0 : Int32) from by decide]
      refine w_laload X180 hx hZ e180 V170 (v := y0) (by decide) rfl (hb hby d6_92) (pc' := 93) rfl ?_
      refine w_lastore X180 hx hZ e180 V170 (by decide) (by show (1 : Nat) < rest.length + 1 + 1 + 1 + 1; omega) (hb hby d6_93) (pc' := 94) rfl (fun T181 h181 X181 e181 W181 V181 => ?_)
      have V181 : AJ Z h181 hp (y0 :: y0 :: y2 :: y1 :: rest) := V181
      have KP181 := KP170.wr W181 (Or.inl (by simp))
      have N181 := Fr.snoc X181 N170 g_hp
      have zn181 : n0 ≤ h181.size := by rw [W181.size]; exact zn170
      refine w_iload X181 hx (hb hby d6_94) (pc' := 96) rfl rfl ?_
      refine w_iconst (v := 1) X181 hx (hb hby d6_96) (pc' := 97) rfl rfl ?_
      refine w_isub X181 hx (hb hby d6_97) (pc' := 98) rfl ?_
      rw [show ((1 : Int32) - (1 : Int32)) = (0 : Int32) from by decide]
      refine w_iconst (v := 1) X181 hx (hb hby d6_98) (pc' := 99) rfl rfl ?_
      refine w_iushr X181 hx (hb hby d6_99) (pc' := 100) rfl ?_
      rw [show (jushr (0 : Int32) (1 : Int32)) = (0 : Int32) from by decide]
      refine w_istore (Ls' := #[.val (.ref ob), .val (.long x1), .second, .val (.int x2), .val (.long ev), .second, .val (.int (0 : Int32))]) X181 hx (hb hby d6_100) (pc' := 102) rfl rfl ?_
      refine w_goto X181 hx (hb hby d6_102) (pc' := 54) (by decide) (by decide) ?_
      refine w_iload X181 hx (hb hby d6_54) (pc' := 56) rfl rfl ?_
      have hf56 : ¬ ((0 : Int32) < (0 : Int32)) := (by decide)
      refine w_if_le X181 hx (hb hby d6_56) (pf := 59) (pt := 105) rfl (by decide) (by decide) (fun hc56 => ?_) (fun hc => absurd hc hf56)
      refine w_aloadN X181 hx (hb hby d6_105) (pc' := 106) rfl rfl rfl ?_
      have f182 := f171.other W181 (Or.inl (Ne.symm nho))
      refine w_getF X181 hx hZ hown e181 f182 (hw _ (List.mem_of_getElem? (i := 19) rfl)) (hb hby d6_106) (pc' := 109) rfl (fun T183 X183 e183 => ?_)
      refine w_iload X183 hx (hb hby d6_109) (pc' := 111) rfl rfl ?_
      refine w_lload X183 hx (hb hby d6_111) (pc' := 113) rfl rfl ?_
      refine w_lastore X183 hx hZ e183 V181 (by decide) (by show (0 : Nat) < rest.length + 1 + 1 + 1 + 1; omega) (hb hby d6_113) (pc' := 114) rfl (fun T184 h184 X184 e184 W184 V184 => ?_)
      have V184 : AJ Z h184 hp (ev :: y0 :: y2 :: y1 :: rest) := V184
      have KP184 := KP181.wr W184 (Or.inl (by simp))
      have N184 := Fr.snoc X184 N181 g_hp
      have zn184 : n0 ≤ h184.size := by rw [W184.size]; exact zn181
      have f185 := f182.other W184 (Or.inl (Ne.symm nho))
      have f186 := F159.other W170 (Or.inl (Ne.symm nho))
      have f187 := f186.other W181 (Or.inl (Ne.symm nho))
      have f188 := f187.other W184 (Or.inl (Ne.symm nho))
      exact w_retV X184 hx hret hlk (hb hby d6_114) (by decide) (by decide) (by rw [e184]; exact ⟨rfl, N184, KP184, hp, ev, y0, y2, y1, rest, f185, f188, V184, hrl, (by omega), (fun f => by omega), nho, Or.inl rfl⟩)
set_option maxRecDepth 65536 in
set_option maxHeartbeats 40000000 in
theorem rm6f_3 (l : Launch) (Z : State) (a0 : Array Value) (hw : ∀ d ∈ tables_1, d.before a0 Z = true) (ob : Addr) (x1 : Int64) (x2 : Int32) (h0 : Heap) (n0 : Nat) (Z0 : n0 ≤ h0.size) (hp : Addr) (ev : Int64) (y0 : Int64) (y1 : Int64) (y2 : Int64) (E_ob : Exa Z h0 ob "com/example/facet/facet/regex/MinQueue") (g_ob : n0 ≤ ob) (g_hp : n0 ≤ hp) (F_heap : Fld Z h0 ob "com/example/facet/facet/regex/MinQueue" "heap" "[J" (.ref hp)) (F_size : Fld Z h0 ob "com/example/facet/facet/regex/MinQueue" "size" "I" (.int (3 : Int32))) (V_hp : AJ Z h0 hp (y0 :: y1 :: y2 :: [])) (nho : hp ≠ ob) (hO : y0.toInt ≤ y1.toInt ∧ y0.toInt ≤ y2.toInt) (hev : ((x1 <<< ((32 : Int32) &&& 0x3f).toInt64) ||| x2.toInt64) = ev) :
    Con l Z (⟨"com/example/facet/facet/regex/MinQueue", "add", "(JI)V"⟩ : MethodName) prog_33_method_3_code 7 none ({ frames := 2, cells := 1, slots := 8, locals := 72 } : Room) #[(.ref ob), (.long x1), (.int x2)] h0 (fun v h L => v = none ∧ Fr n0 L ∧ Keep h0 h [ob, hp] ∧ ∃ (b : Addr) (k0 k1 k2 k3 : Int64) (rs : List Int64), Fld Z h ob "com/example/facet/facet/regex/MinQueue" "heap" "[J" (.ref b) ∧ Fld Z h ob "com/example/facet/facet/regex/MinQueue" "size" "I" (.int (4 : Int32)) ∧ AJ Z h b (k0 :: k1 :: k2 :: k3 :: rs) ∧ rs.length ≤ 4 ∧ (k0.toInt ≤ k1.toInt ∧ k0.toInt ≤ k2.toInt ∧ k1.toInt ≤ k3.toInt) ∧ (∀ f : Int64 → Nat, f k0 + f k1 + f k2 + f k3 = f y0 + f y1 + f y2 + f ev) ∧ b ≠ ob ∧ (b = hp ∨ h0.size ≤ b)) := by
  refine Con.of (plainFor_of_name (by first | (simp [plainName, overriddenIn]; done) | decide +kernel)) ?_
  intro p e s m below meth c T X hx hZ hby hml hown hnm hret hlk e0
  rw [ef_6]
  have N0 := Fr.nil n0
  have KP0 := Keep.refl h0 [ob, hp]
  show Go p e below s 1 8 (fun v h L => v = none ∧ Fr n0 L ∧ Keep h0 h [ob, hp] ∧ ∃ (b : Addr) (k0 k1 k2 k3 : Int64) (rs : List Int64), Fld Z h ob "com/example/facet/facet/regex/MinQueue" "heap" "[J" (.ref b) ∧ Fld Z h ob "com/example/facet/facet/regex/MinQueue" "size" "I" (.int (4 : Int32)) ∧ AJ Z h b (k0 :: k1 :: k2 :: k3 :: rs) ∧ rs.length ≤ 4 ∧ (k0.toInt ≤ k1.toInt ∧ k0.toInt ≤ k2.toInt ∧ k1.toInt ≤ k3.toInt) ∧ (∀ f : Int64 → Nat, f k0 + f k1 + f k2 + f k3 = f y0 + f y1 + f y2 + f ev) ∧ b ≠ ob ∧ (b = hp ∨ h0.size ≤ b)) T (mkF m 0 #[.val (.ref ob), .val (.long x1), .second, .val (.int x2), .unset, .unset, .unset] [])
  refine w_aloadN X hx (hb hby d6_0) (pc' := 1) rfl rfl rfl ?_
  refine w_getF X hx hZ hown e0 F_size (hw _ (List.mem_of_getElem? (i := 30) rfl)) (hb hby d6_1) (pc' := 4) rfl (fun T191 X191 e191 => ?_)
  refine w_aloadN X191 hx (hb hby d6_4) (pc' := 5) rfl rfl rfl ?_
  refine w_getF X191 hx hZ hown e191 F_heap (hw _ (List.mem_of_getElem? (i := 19) rfl)) (hb hby d6_5) (pc' := 8) rfl (fun T192 X192 e192 => ?_)
  refine w_alenJ X192 hx hZ e192 V_hp (n := (3 : Int32)) rfl (hb hby d6_8) (pc' := 9) rfl ?_
  have hf9 : (3 : Int32) = (3 : Int32) := (by decide)
  refine w_icmp_ne X192 hx (hb hby d6_9) (pf := 12) (pt := 29) rfl (by decide) (by decide) (fun hc => absurd hf9 hc) (fun hc9 => ?_)
  refine w_aloadN X192 hx (hb hby d6_12) (pc' := 13) rfl rfl rfl ?_
  refine w_aloadN X192 hx (hb hby d6_13) (pc' := 14) rfl rfl rfl ?_
  refine w_getF X192 hx hZ hown e192 F_heap (hw _ (List.mem_of_getElem? (i := 19) rfl)) (hb hby d6_14) (pc' := 17) rfl (fun T193 X193 e193 => ?_)
  refine w_iconst (v := 2) X193 hx (hb hby d6_17) (pc' := 18) rfl rfl ?_
  refine w_aloadN X193 hx (hb hby d6_18) (pc' := 19) rfl rfl rfl ?_
  refine w_getF X193 hx hZ hown e193 F_size (hw _ (List.mem_of_getElem? (i := 30) rfl)) (hb hby d6_19) (pc' := 22) rfl (fun T194 X194 e194 => ?_)
  refine w_imul X194 hx (hb hby d6_22) (pc' := 23) rfl ?_
  rw [show ((2 : Int32) * (3 : Int32)) = (6 : Int32) from by decide]
  refine w_callS (argsL := [(.ref hp), (.int (6 : Int32))]) (rest := [(.ref ob)]) X194 hx hZ hown e194 (rm7 l Z a0 hw hp (6 : Int32) h0 n0 Z0 [y0, y1, y2] V_hp (by simp) rfl) (hw _ (List.mem_of_getElem? (i := 32) rfl)) (hw _ (List.mem_of_getElem? (i := 33) rfl)) (hw _ (List.mem_of_getElem? (i := 34) rfl)) (hw _ (List.mem_of_getElem? (i := 35) rfl)) (by decide) (by decide) (W := 1) (by decide) (by decide) (by decide) (by rw [hml]; rfl) (lenOf pd_1 rfl) (Nat.le_refl _) rfl (hb hby d6_23) (pc' := 26) rfl (fun T195 L195 v195 X195 hQ195 => ?_)
  obtain ⟨b195, rfl, N195q, K195, sz195, V195⟩ := hQ195
  have zn195 : n0 ≤ T195.heap.size := Nat.le_trans Z0 K195.1
  have KP195 := KP0.trans K195 all0
  have g_b195 : n0 ≤ b195 := Nat.le_trans Z0 sz195
  have sz_b195 : h0.size ≤ b195 := Nat.le_trans KP0.1 sz195
  have ne_ob_b195 : ob ≠ b195 := Nat.ne_of_lt (Nat.lt_of_lt_of_le E_ob.lt sz195)
  have ne_hp_b195 : hp ≠ b195 := Nat.ne_of_lt (Nat.lt_of_lt_of_le V_hp.lt sz195)
  have N195 := Fr.app N0 N195q
  have X195 : Stand p l e ({ frames := 2, cells := 1, slots := 8, locals := 72 } : Room) s m _ below meth c T195 _ 1 8 := X195
  have V195 : AJ Z T195.heap b195 [y0, y1, y2, (0 : Int64), (0 : Int64), (0 : Int64)] := V195
  show Go p e below s 1 8 (fun v h L => v = none ∧ Fr n0 L ∧ Keep h0 h [ob, hp] ∧ ∃ (b : Addr) (k0 k1 k2 k3 : Int64) (rs : List Int64), Fld Z h ob "com/example/facet/facet/regex/MinQueue" "heap" "[J" (.ref b) ∧ Fld Z h ob "com/example/facet/facet/regex/MinQueue" "size" "I" (.int (4 : Int32)) ∧ AJ Z h b (k0 :: k1 :: k2 :: k3 :: rs) ∧ rs.length ≤ 4 ∧ (k0.toInt ≤ k1.toInt ∧ k0.toInt ≤ k2.toInt ∧ k1.toInt ≤ k3.toInt) ∧ (∀ f : Int64 → Nat, f k0 + f k1 + f k2 + f k3 = f y0 + f y1 + f y2 + f ev) ∧ b ≠ ob ∧ (b = hp ∨ h0.size ≤ b)) T195 (mkF m 26 #[.val (.ref ob), .val (.long x1), .second, .val (.int x2), .unset, .unset, .unset] [(.ref b195), (.ref ob)])
  have f196 := F_heap.keep K195 nin0
  have f197 := E_ob.keep K195
  refine w_putF X195 hx hZ hown rfl f196 f197 (hw _ (List.mem_of_getElem? (i := 19) rfl)) (Or.inl (hw _ (List.mem_of_getElem? (i := 20) rfl))) (hw _ (List.mem_of_getElem? (i := 7) rfl)) (ty := (.array .long)) (by decide) rfl rfl (hb hby d6_26) (pc' := 29) rfl (fun T198 h198 X198 e198 W198 => ?_)
  have F198 := f196.same W198
  have KP198 := KP195.wr W198 (Or.inl (by simp))
  have N198 := Fr.snoc X198 N195 g_ob
  have zn198 : n0 ≤ h198.size := by rw [W198.size]; exact zn195
  refine w_lloadN X198 hx (hb hby d6_29) (pc' := 30) rfl rfl ?_
  refine w_bipush (v := 32) X198 hx (hb hby d6_30) (pc' := 32) rfl rfl ?_
  refine w_lshl X198 hx (hb hby d6_32) (pc' := 33) rfl ?_
  refine w_iloadN X198 hx (hb hby d6_33) (pc' := 34) rfl rfl ?_
  refine w_i2l X198 hx (hb hby d6_34) (pc' := 35) rfl ?_
  refine w_lor X198 hx (hb hby d6_35) (pc' := 36) rfl ?_
  refine w_lstore (Ls' := #[.val (.ref ob), .val (.long x1), .second, .val (.int x2), .val (.long ((x1 <<< ((32 : Int32) &&& 0x3f).toInt64) ||| x2.toInt64)), .second, .unset]) X198 hx (hb hby d6_36) (pc' := 38) rfl rfl ?_
  rw [hev]
  refine w_aloadN X198 hx (hb hby d6_38) (pc' := 39) rfl rfl rfl ?_
  have f199 := F_size.keep K195 nin0
  have f200 := f199.other W198 (Or.inr (slot_ne (Or.inl (hw _ (List.mem_of_getElem? (i := 31) rfl))) (Or.inl (hw _ (List.mem_of_getElem? (i := 20) rfl))) (by decide) (t := .int) (t' := (.array .long)) (by decide) (by decide)))
  refine w_getF X198 hx hZ hown e198 f200 (hw _ (List.mem_of_getElem? (i := 30) rfl)) (hb hby d6_39) (pc' := 42) rfl (fun T201 X201 e201 => ?_)
  refine w_istore (Ls' := #[.val (.ref ob), .val (.long x1), .second, .val (.int x2), .val (.long ev), .second, .val (.int (3 : Int32))]) X201 hx (hb hby d6_42) (pc' := 44) rfl rfl ?_
  refine w_aloadN X201 hx (hb hby d6_44) (pc' := 45) rfl rfl rfl ?_
  refine w_dup X201 hx (hb hby d6_45) (pc' := 46) rfl rfl ?_
  refine w_getF X201 hx hZ hown e201 f200 (hw _ (List.mem_of_getElem? (i := 30) rfl)) (hb hby d6_46) (pc' := 49) rfl (fun T202 X202 e202 => ?_)
  refine w_iconst (v := 1) X202 hx (hb hby d6_49) (pc' := 50) rfl rfl ?_
  refine w_iadd X202 hx (hb hby d6_50) (pc' := 51) rfl ?_
  rw [show ((3 : Int32) + (1 : Int32)) = (4 : Int32) from by decide]
  have f203 := f197.wr W198
  refine w_putF X202 hx hZ hown e202 f200 f203 (hw _ (List.mem_of_getElem? (i := 30) rfl)) (Or.inl (hw _ (List.mem_of_getElem? (i := 31) rfl))) (hw _ (List.mem_of_getElem? (i := 7) rfl)) (ty := .int) (by decide) rfl rfl (hb hby d6_51) (pc' := 54) rfl (fun T204 h204 X204 e204 W204 => ?_)
  have F204 := f200.same W204
  have KP204 := KP198.wr W204 (Or.inl (by simp))
  have N204 := Fr.snoc X204 N198 g_ob
  have zn204 : n0 ≤ h204.size := by rw [W204.size]; exact zn198
  refine w_iload X204 hx (hb hby d6_54) (pc' := 56) rfl rfl ?_
  have hf56 : (0 : Int32) < (3 : Int32) := (by decide)
  refine w_if_le X204 hx (hb hby d6_56) (pf := 59) (pt := 105) rfl (by decide) (by decide) (fun hc => absurd hf56 hc) (fun hc56 => ?_)
  refine w_aloadN X204 hx (hb hby d6_59) (pc' := 60) rfl rfl rfl ?_
  have f205 := F198.other W204 (Or.inr (slot_ne (Or.inl (hw _ (List.mem_of_getElem? (i := 20) rfl))) (Or.inl (hw _ (List.mem_of_getElem? (i := 31) rfl))) (by decide) (t := (.array .long)) (t' := .int) (by decide) (by decide)))
  refine w_getF X204 hx hZ hown e204 f205 (hw _ (List.mem_of_getElem? (i := 19) rfl)) (hb hby d6_60) (pc' := 63) rfl (fun T206 X206 e206 => ?_)
  refine w_iload X206 hx (hb hby d6_63) (pc' := 65) rfl rfl ?_
  refine w_iconst (v := 1) X206 hx (hb hby d6_65) (pc' := 66) rfl rfl ?_
  refine w_isub X206 hx (hb hby d6_66) (pc' := 67) rfl ?_
  rw [show ((3 : Int32) - (1 : Int32)) = (2 : Int32) from by decide]
  refine w_iconst (v := 1) X206 hx (hb hby d6_67) (pc' := 68) rfl rfl ?_
  refine w_iushr X206 hx (hb hby d6_68) (pc' := 69) rfl ?_
  rw [show (jushr (2 : Int32) (1 : Int32)) = (1 : Int32) from by decide]
  have f207 := V195.other W198 (Ne.symm ne_ob_b195)
  have f208 := f207.other W204 (Ne.symm ne_ob_b195)
  refine w_laload X206 hx hZ e206 f208 (v := y1) (by decide) rfl (hb hby d6_69) (pc' := 70) rfl ?_
  refine w_lload X206 hx (hb hby d6_70) (pc' := 72) rfl rfl ?_
  refine w_lcmp X206 hx (hb hby d6_72) (pc' := 73) rfl ?_
  refine w_ifL_le X206 hx (hb hby d6_73) (pf := 76) (pt := 105) rfl (by decide) (by decide) (fun hc73 => ?_) (fun hc73 => ?_)
  · have hz213 := mt Int64.lt_iff_toInt_lt.mpr hc73
    refine w_aloadN X206 hx (hb hby d6_105) (pc' := 106) rfl rfl rfl ?_
    refine w_getF X206 hx hZ hown e206 f205 (hw _ (List.mem_of_getElem? (i := 19) rfl)) (hb hby d6_106) (pc' := 109) rfl (fun T209 X209 e209 => ?_)
    refine w_iload X209 hx (hb hby d6_109) (pc' := 111) rfl rfl ?_
    refine w_lload X209 hx (hb hby d6_111) (pc' := 113) rfl rfl ?_
    refine w_lastore X209 hx hZ e209 f208 (by decide) (by show _ < 6; decide) (hb hby d6_113) (pc' := 114) rfl (fun T210 h210 X210 e210 W210 V210 => ?_)
    have V210 : AJ Z h210 b195 [y0, y1, y2, ev, (0 : Int64), (0 : Int64)] := V210
    have KP210 := KP204.wr W210 (Or.inr sz_b195)
    have N210 := Fr.snoc X210 N204 g_b195
    have zn210 : n0 ≤ h210.size := by rw [W210.size]; exact zn204
    have f211 := f205.other W210 (Or.inl ne_ob_b195)
    have f212 := F204.other W210 (Or.inl ne_ob_b195)
    exact w_retV X210 hx hret hlk (hb hby d6_114) (by decide) (by decide) (by rw [e210]; exact ⟨rfl, N210, KP210, b195, y0, y1, y2, ev, [(0 : Int64), (0 : Int64)], f211, f212, V210, (by decide), (by omega), (fun f => by omega), (Ne.symm ne_ob_b195), Or.inr sz_b195⟩)
  · have hz236 := Int64.lt_iff_toInt_lt.mp hc73
    refine w_aloadN X206 hx (hb hby d6_76) (pc' := 77) rfl rfl rfl ?_
    refine w_getF X206 hx hZ hown e206 f205 (hw _ (List.mem_of_getElem? (i := 19) rfl)) (hb hby d6_77) (pc' := 80) rfl (fun T214 X214 e214 => ?_)
    refine w_iload X214 hx (hb hby d6_80) (pc' := 82) rfl rfl ?_
    refine w_aloadN X214 hx (hb hby d6_82) (pc' := 83) rfl rfl rfl ?_
    refine w_getF X214 hx hZ hown e214 f205 (hw _ (List.mem_of_getElem? (i := 19) rfl)) (hb hby d6_83) (pc' := 86) rfl (fun T215 X215 e215 => ?_)
    refine w_iload X215 hx (hb hby d6_86) (pc' := 88) rfl rfl ?_
    refine w_iconst (v := 1) X215 hx (hb hby d6_88) (pc' := 89) rfl rfl ?_
    refine w_isub X215 hx (hb hby d6_89) (pc' := 90) rfl ?_
    rw [show ((3 : Int32) - (1 : Int32)) = (2 : Int32) from by decide]
    refine w_iconst (v := 1) X215 hx (hb hby d6_90) (pc' := 91) rfl rfl ?_
    refine w_iushr X215 hx (hb hby d6_91) (pc' := 92) rfl ?_
    rw [show (jushr (2 : Int32) (1 : Int32)) = (1 : Int32) from by decide]
    refine w_laload X215 hx hZ e215 f208 (v := y1) (by decide) rfl (hb hby d6_92) (pc' := 93) rfl ?_
    refine w_lastore X215 hx hZ e215 f208 (by decide) (by show _ < 6; decide) (hb hby d6_93) (pc' := 94) rfl (fun T216 h216 X216 e216 W216 V216 => ?_)
    have V216 : AJ Z h216 b195 [y0, y1, y2, y1, (0 : Int64), (0 : Int64)] := V216
    have KP216 := KP204.wr W216 (Or.inr sz_b195)
    have N216 := Fr.snoc X216 N204 g_b195
    have zn216 : n0 ≤ h216.size := by rw [W216.size]; exact zn204
    refine w_iload X216 hx (hb hby d6_94) (pc' := 96) rfl rfl ?_
    refine w_iconst (v := 1) X216 hx (hb hby d6_96) (pc' := 97) rfl rfl ?_
    refine w_isub X216 hx (hb hby d6_97) (pc' := 98) rfl ?_
    rw [show ((3 : Int32) - (1 : Int32)) = (2 : Int32) from by decide]
    refine w_iconst (v := 1) X216 hx (hb hby d6_98) (pc' := 99) rfl rfl ?_
    refine w_iushr X216 hx (hb hby d6_99) (pc' := 100) rfl ?_
    rw [show (jushr (2 : Int32) (1 : Int32)) = (1 : Int32) from by decide]
    refine w_istore (Ls' := #[.val (.ref ob), .val (.long x1), .second, .val (.int x2), .val (.long ev), .second, .val (.int (1 : Int32))]) X216 hx (hb hby d6_100) (pc' := 102) rfl rfl ?_
    refine w_goto X216 hx (hb hby d6_102) (pc' := 54) (by decide) (by decide) ?_
    refine w_iload X216 hx (hb hby d6_54) (pc' := 56) rfl rfl ?_
    have hf56 : (0 : Int32) < (1 : Int32) := (by decide)
    refine w_if_le X216 hx (hb hby d6_56) (pf := 59) (pt := 105) rfl (by decide) (by decide) (fun hc => absurd hf56 hc) (fun hc56 => ?_)
    refine w_aloadN X216 hx (hb hby d6_59) (pc' := 60) rfl rfl rfl ?_
    have f217 := f205.other W216 (Or.inl ne_ob_b195)
    refine w_getF X216 hx hZ hown e216 f217 (hw _ (List.mem_of_getElem? (i := 19) rfl)) (hb hby d6_60) (pc' := 63) rfl (fun T218 X218 e218 => ?_)
    refine w_iload X218 hx (hb hby d6_63) (pc' := 65) rfl rfl ?_
    refine w_iconst (v := 1) X218 hx (hb hby d6_65) (pc' := 66) rfl rfl ?_
    refine w_isub X218 hx (hb hby d6_66) (pc' := 67) rfl ?_
    rw [show ((1 : Int32) - (1 : Int32)) = (0 : Int32) from by decide]
    refine w_iconst (v := 1) X218 hx (hb hby d6_67) (pc' := 68) rfl rfl ?_
    refine w_iushr X218 hx (hb hby d6_68) (pc' := 69) rfl ?_
    rw [show (jushr (0 : Int32) (1 : Int32)) = (0 : Int32) from by decide]
    refine w_laload X218 hx hZ e218 V216 (v := y0) (by decide) rfl (hb hby d6_69) (pc' := 70) rfl ?_
    refine w_lload X218 hx (hb hby d6_70) (pc' := 72) rfl rfl ?_
    refine w_lcmp X218 hx (hb hby d6_72) (pc' := 73) rfl ?_
    refine w_ifL_le X218 hx (hb hby d6_73) (pf := 76) (pt := 105) rfl (by decide) (by decide) (fun hc73 => ?_) (fun hc73 => ?_)
    · have hz224 := mt Int64.lt_iff_toInt_lt.mpr hc73
      refine w_aloadN X218 hx (hb hby d6_105) (pc' := 106) rfl rfl rfl ?_
      refine w_getF X218 hx hZ hown e218 f217 (hw _ (List.mem_of_getElem? (i := 19) rfl)) (hb hby d6_106) (pc' := 109) rfl (fun T219 X219 e219 => ?_)
      refine w_iload X219 hx (hb hby d6_109) (pc' := 111) rfl rfl ?_
      refine w_lload X219 hx (hb hby d6_111) (pc' := 113) rfl rfl ?_
      refine w_lastore X219 hx hZ e219 V216 (by decide) (by show _ < 6; decide) (hb hby d6_113) (pc' := 114) rfl (fun T220 h220 X220 e220 W220 V220 => ?_)
      have V220 : AJ Z h220 b195 [y0, ev, y2, y1, (0 : Int64), (0 : Int64)] := V220
      have KP220 := KP216.wr W220 (Or.inr sz_b195)
      have N220 := Fr.snoc X220 N216 g_b195
      have zn220 : n0 ≤ h220.size := by rw [W220.size]; exact zn216
      have f221 := f217.other W220 (Or.inl ne_ob_b195)
      have f222 := F204.other W216 (Or.inl ne_ob_b195)
      have f223 := f222.other W220 (Or.inl ne_ob_b195)
      exact w_retV X220 hx hret hlk (hb hby d6_114) (by decide) (by decide) (by rw [e220]; exact ⟨rfl, N220, KP220, b195, y0, ev, y2, y1, [(0 : Int64), (0 : Int64)], f221, f223, V220, (by decide), (by omega), (fun f => by omega), (Ne.symm ne_ob_b195), Or.inr sz_b195⟩)
    · have hz235 := Int64.lt_iff_toInt_lt.mp hc73
      refine w_aloadN X218 hx (hb hby d6_76) (pc' := 77) rfl rfl rfl ?_
      refine w_getF X218 hx hZ hown e218 f217 (hw _ (List.mem_of_getElem? (i := 19) rfl)) (hb hby d6_77) (pc' := 80) rfl (fun T225 X225 e225 => ?_)
      refine w_iload X225 hx (hb hby d6_80) (pc' := 82) rfl rfl ?_
      refine w_aloadN X225 hx (hb hby d6_82) (pc' := 83) rfl rfl rfl ?_
      refine w_getF X225 hx hZ hown e225 f217 (hw _ (List.mem_of_getElem? (i := 19) rfl)) (hb hby d6_83) (pc' := 86) rfl (fun T226 X226 e226 => ?_)
      refine w_iload X226 hx (hb hby d6_86) (pc' := 88) rfl rfl ?_
      refine w_iconst (v := 1) X226 hx (hb hby d6_88) (pc' := 89) rfl rfl ?_
      refine w_isub X226 hx (hb hby d6_89) (pc' := 90) rfl ?_
      rw [show ((1 : Int32) - (1 : Int32)) = (0 : Int32) from by decide]
      refine w_iconst (v := 1) X226 hx (hb hby d6_90) (pc' := 91) rfl rfl ?_
      refine w_iushr X226 hx (hb hby d6_91) (pc' := 92) rfl ?_
      rw [show (jushr (0 : Int32) (1 : Int32)) = (0 : Int32) from by decide]
      refine w_laload X226 hx hZ e226 V216 (v := y0) (by decide) rfl (hb hby d6_92) (pc' := 93) rfl ?_
      refine w_lastore X226 hx hZ e226 V216 (by decide) (by show _ < 6; decide) (hb hby d6_93) (pc' := 94) rfl (fun T227 h227 X227 e227 W227 V227 => ?_)
      have V227 : AJ Z h227 b195 [y0, y0, y2, y1, (0 : Int64), (0 : Int64)] := V227
      have KP227 := KP216.wr W227 (Or.inr sz_b195)
      have N227 := Fr.snoc X227 N216 g_b195
      have zn227 : n0 ≤ h227.size := by rw [W227.size]; exact zn216
      refine w_iload X227 hx (hb hby d6_94) (pc' := 96) rfl rfl ?_
      refine w_iconst (v := 1) X227 hx (hb hby d6_96) (pc' := 97) rfl rfl ?_
      refine w_isub X227 hx (hb hby d6_97) (pc' := 98) rfl ?_
      rw [show ((1 : Int32) - (1 : Int32)) = (0 : Int32) from by decide]
      refine w_iconst (v := 1) X227 hx (hb hby d6_98) (pc' := 99) rfl rfl ?_
      refine w_iushr X227 hx (hb hby d6_99) (pc' := 100) rfl ?_
      rw [show (jushr (0 : Int32) (1 : Int32)) = (0 : Int32) from by decide]
      refine w_istore (Ls' := #[.val (.ref ob), .val (.long x1), .second, .val (.int x2), .val (.long ev), .second, .val (.int (0 : Int32))]) X227 hx (hb hby d6_100) (pc' := 102) rfl rfl ?_
      refine w_goto X227 hx (hb hby d6_102) (pc' := 54) (by decide) (by decide) ?_
      refine w_iload X227 hx (hb hby d6_54) (pc' := 56) rfl rfl ?_
      have hf56 : ¬ ((0 : Int32) < (0 : Int32)) := (by decide)
      refine w_if_le X227 hx (hb hby d6_56) (pf := 59) (pt := 105) rfl (by decide) (by decide) (fun hc56 => ?_) (fun hc => absurd hc hf56)
      refine w_aloadN X227 hx (hb hby d6_105) (pc' := 106) rfl rfl rfl ?_
      have f228 := f217.other W227 (Or.inl ne_ob_b195)
      refine w_getF X227 hx hZ hown e227 f228 (hw _ (List.mem_of_getElem? (i := 19) rfl)) (hb hby d6_106) (pc' := 109) rfl (fun T229 X229 e229 => ?_)
      refine w_iload X229 hx (hb hby d6_109) (pc' := 111) rfl rfl ?_
      refine w_lload X229 hx (hb hby d6_111) (pc' := 113) rfl rfl ?_
      refine w_lastore X229 hx hZ e229 V227 (by decide) (by show _ < 6; decide) (hb hby d6_113) (pc' := 114) rfl (fun T230 h230 X230 e230 W230 V230 => ?_)
      have V230 : AJ Z h230 b195 [ev, y0, y2, y1, (0 : Int64), (0 : Int64)] := V230
      have KP230 := KP227.wr W230 (Or.inr sz_b195)
      have N230 := Fr.snoc X230 N227 g_b195
      have zn230 : n0 ≤ h230.size := by rw [W230.size]; exact zn227
      have f231 := f228.other W230 (Or.inl ne_ob_b195)
      have f232 := F204.other W216 (Or.inl ne_ob_b195)
      have f233 := f232.other W227 (Or.inl ne_ob_b195)
      have f234 := f233.other W230 (Or.inl ne_ob_b195)
      exact w_retV X230 hx hret hlk (hb hby d6_114) (by decide) (by decide) (by rw [e230]; exact ⟨rfl, N230, KP230, b195, ev, y0, y2, y1, [(0 : Int64), (0 : Int64)], f231, f234, V230, (by decide), (by omega), (fun f => by omega), (Ne.symm ne_ob_b195), Or.inr sz_b195⟩)
theorem rm6_3 (l : Launch) (Z : State) (a0 : Array Value) (hw : ∀ d ∈ tables_1, d.before a0 Z = true) (ob : Addr) (x1 : Int64) (x2 : Int32) (h0 : Heap) (n0 : Nat) (Z0 : n0 ≤ h0.size) (hp : Addr) (ev : Int64) (y0 : Int64) (y1 : Int64) (y2 : Int64) (rest : List Int64) (E_ob : Exa Z h0 ob "com/example/facet/facet/regex/MinQueue") (g_ob : n0 ≤ ob) (g_hp : n0 ≤ hp) (F_heap : Fld Z h0 ob "com/example/facet/facet/regex/MinQueue" "heap" "[J" (.ref hp)) (F_size : Fld Z h0 ob "com/example/facet/facet/regex/MinQueue" "size" "I" (.int (3 : Int32))) (V_hp : AJ Z h0 hp (y0 :: y1 :: y2 :: rest)) (nho : hp ≠ ob) (hO : y0.toInt ≤ y1.toInt ∧ y0.toInt ≤ y2.toInt) (hev : ((x1 <<< ((32 : Int32) &&& 0x3f).toInt64) ||| x2.toInt64) = ev) (hrl : rest.length ≤ 5) :
    Con l Z (⟨"com/example/facet/facet/regex/MinQueue", "add", "(JI)V"⟩ : MethodName) prog_33_method_3_code 7 none ({ frames := 2, cells := 1, slots := 8, locals := 72 } : Room) #[.ref ob, .long x1, .int x2] h0 (fun v h L => v = none ∧ Fr n0 L ∧ Keep h0 h [ob, hp] ∧ ∃ (b : Addr) (k0 k1 k2 k3 : Int64) (rs : List Int64), Fld Z h ob "com/example/facet/facet/regex/MinQueue" "heap" "[J" (.ref b) ∧ Fld Z h ob "com/example/facet/facet/regex/MinQueue" "size" "I" (.int (4 : Int32)) ∧ AJ Z h b (k0 :: k1 :: k2 :: k3 :: rs) ∧ rs.length ≤ 4 ∧ (k0.toInt ≤ k1.toInt ∧ k0.toInt ≤ k2.toInt ∧ k1.toInt ≤ k3.toInt) ∧ (∀ f : Int64 → Nat, f k0 + f k1 + f k2 + f k3 = f y0 + f y1 + f y2 + f ev) ∧ b ≠ ob ∧ (b = hp ∨ h0.size ≤ b)) := by
  cases rest with
  | nil => exact rm6f_3 l Z a0 hw ob x1 x2 h0 n0 Z0 hp ev y0 y1 y2 E_ob g_ob g_hp F_heap F_size V_hp nho hO hev
  | cons r rest => exact rm6r_3 l Z a0 hw ob x1 x2 h0 n0 Z0 hp ev y0 y1 y2 r rest E_ob g_ob g_hp F_heap F_size V_hp nho hO hev (by simp at hrl; omega)
set_option maxRecDepth 65536 in
set_option maxHeartbeats 40000000 in
theorem rm6r_4 (l : Launch) (Z : State) (a0 : Array Value) (hw : ∀ d ∈ tables_1, d.before a0 Z = true) (ob : Addr) (x1 : Int64) (x2 : Int32) (h0 : Heap) (n0 : Nat) (Z0 : n0 ≤ h0.size) (hp : Addr) (ev : Int64) (y0 : Int64) (y1 : Int64) (y2 : Int64) (y3 : Int64) (r : Int64) (rest : List Int64) (E_ob : Exa Z h0 ob "com/example/facet/facet/regex/MinQueue") (g_ob : n0 ≤ ob) (g_hp : n0 ≤ hp) (F_heap : Fld Z h0 ob "com/example/facet/facet/regex/MinQueue" "heap" "[J" (.ref hp)) (F_size : Fld Z h0 ob "com/example/facet/facet/regex/MinQueue" "size" "I" (.int (4 : Int32))) (V_hp : AJ Z h0 hp (y0 :: y1 :: y2 :: y3 :: r :: rest)) (nho : hp ≠ ob) (hO : y0.toInt ≤ y1.toInt ∧ y0.toInt ≤ y2.toInt ∧ y1.toInt ≤ y3.toInt) (hev : ((x1 <<< ((32 : Int32) &&& 0x3f).toInt64) ||| x2.toInt64) = ev) (hrl : rest.length ≤ 3) :
    Con l Z (⟨"com/example/facet/facet/regex/MinQueue", "add", "(JI)V"⟩ : MethodName) prog_33_method_3_code 7 none ({ frames := 2, cells := 1, slots := 8, locals := 72 } : Room) #[(.ref ob), (.long x1), (.int x2)] h0 (fun v h L => v = none ∧ Fr n0 L ∧ Keep h0 h [ob, hp] ∧ ∃ (b : Addr) (k0 k1 k2 k3 k4 : Int64) (rs : List Int64), Fld Z h ob "com/example/facet/facet/regex/MinQueue" "heap" "[J" (.ref b) ∧ Fld Z h ob "com/example/facet/facet/regex/MinQueue" "size" "I" (.int (5 : Int32)) ∧ AJ Z h b (k0 :: k1 :: k2 :: k3 :: k4 :: rs) ∧ rs.length ≤ 3 ∧ (k0.toInt ≤ k1.toInt ∧ k0.toInt ≤ k2.toInt ∧ k1.toInt ≤ k3.toInt ∧ k1.toInt ≤ k4.toInt) ∧ (∀ f : Int64 → Nat, f k0 + f k1 + f k2 + f k3 + f k4 = f y0 + f y1 + f y2 + f y3 + f ev) ∧ b ≠ ob ∧ (b = hp ∨ h0.size ≤ b)) := by
  refine Con.of (plainFor_of_name (by first | (simp [plainName, overriddenIn]; done) | decide +kernel)) ?_
  intro p e s m below meth c T X hx hZ hby hml hown hnm hret hlk e0
  rw [ef_6]
  have N0 := Fr.nil n0
  have KP0 := Keep.refl h0 [ob, hp]
  show Go p e below s 1 8 (fun v h L => v = none ∧ Fr n0 L ∧ Keep h0 h [ob, hp] ∧ ∃ (b : Addr) (k0 k1 k2 k3 k4 : Int64) (rs : List Int64), Fld Z h ob "com/example/facet/facet/regex/MinQueue" "heap" "[J" (.ref b) ∧ Fld Z h ob "com/example/facet/facet/regex/MinQueue" "size" "I" (.int (5 : Int32)) ∧ AJ Z h b (k0 :: k1 :: k2 :: k3 :: k4 :: rs) ∧ rs.length ≤ 3 ∧ (k0.toInt ≤ k1.toInt ∧ k0.toInt ≤ k2.toInt ∧ k1.toInt ≤ k3.toInt ∧ k1.toInt ≤ k4.toInt) ∧ (∀ f : Int64 → Nat, f k0 + f k1 + f k2 + f k3 + f k4 = f y0 + f y1 + f y2 + f y3 + f ev) ∧ b ≠ ob ∧ (b = hp ∨ h0.size ≤ b)) T (mkF m 0 #[.val (.ref ob), .val (.long x1), .second, .val (.int x2), .unset, .unset, .unset] [])
  refine w_aloadN X hx (hb hby d6_0) (pc' := 1) rfl rfl rfl ?_
  refine w_getF X hx hZ hown e0 F_size (hw _ (List.mem_of_getElem? (i := 30) rfl)) (hb hby d6_1) (pc' := 4) rfl (fun T237 X237 e237 => ?_)
  refine w_aloadN X237 hx (hb hby d6_4) (pc' := 5) rfl rfl rfl ?_
  refine w_getF X237 hx hZ hown e237 F_heap (hw _ (List.mem_of_getElem? (i := 19) rfl)) (hb hby d6_5) (pc' := 8) rfl (fun T238 X238 e238 => ?_)
  refine w_alenJ X238 hx hZ e238 V_hp (n := ((rest.length + 1 + 1 + 1 + 1 + 1).toInt32)) rfl (hb hby d6_8) (pc' := 9) rfl ?_
  have hf9 : ¬ ((4 : Int32) = ((rest.length + 1 + 1 + 1 + 1 + 1).toInt32)) := fun q => absurd ((own_ieq (a := 4) (by decide) (by omega)).1 q) (by omega)
  refine w_icmp_ne X238 hx (hb hby d6_9) (pf := 12) (pt := 29) rfl (by decide) (by decide) (fun hc9 => ?_) (fun hc => absurd hc hf9)
  refine w_lloadN X238 hx (hb hby d6_29) (pc' := 30) rfl rfl ?_
  refine w_bipush (v := 32) X238 hx (hb hby d6_30) (pc' := 32) rfl rfl ?_
  refine w_lshl X238 hx (hb hby d6_32) (pc' := 33) rfl ?_
  refine w_iloadN X238 hx (hb hby d6_33) (pc' := 34) rfl rfl ?_
  refine w_i2l X238 hx (hb hby d6_34) (pc' := 35) rfl ?_
  refine w_lor X238 hx (hb hby d6_35) (pc' := 36) rfl ?_
  refine w_lstore (Ls' := #[.val (.ref ob), .val (.long x1), .second, .val (.int x2), .val (.long ((x1 <<< ((32 : Int32) &&& 0x3f).toInt64) ||| x2.toInt64)), .second, .unset]) X238 hx (hb hby d6_36) (pc' := 38) rfl rfl ?_
  rw [hev]
  refine w_aloadN X238 hx (hb hby d6_38) (pc' := 39) rfl rfl rfl ?_
  refine w_getF X238 hx hZ hown e238 F_size (hw _ (List.mem_of_getElem? (i := 30) rfl)) (hb hby d6_39) (pc' := 42) rfl (fun T239 X239 e239 => ?_)
  refine w_istore (Ls' := #[.val (.ref ob), .val (.long x1), .second, .val (.int x2), .val (.long ev), .second, .val (.int (4 : Int32))]) X239 hx (hb hby d6_42) (pc' := 44) rfl rfl ?_
  refine w_aloadN X239 hx (hb hby d6_44) (pc' := 45) rfl rfl rfl ?_
  refine w_dup X239 hx (hb hby d6_45) (pc' := 46) rfl rfl ?_
  refine w_getF X239 hx hZ hown e239 F_size (hw _ (List.mem_of_getElem? (i := 30) rfl)) (hb hby d6_46) (pc' := 49) rfl (fun T240 X240 e240 => ?_)
  refine w_iconst (v := 1) X240 hx (hb hby d6_49) (pc' := 50) rfl rfl ?_
  refine w_iadd X240 hx (hb hby d6_50) (pc' := 51) rfl ?_
  rw [show ((4 : Int32) + (1 : Int32)) = (5 : Int32) from by decide]
  refine w_putF X240 hx hZ hown e240 F_size E_ob (hw _ (List.mem_of_getElem? (i := 30) rfl)) (Or.inl (hw _ (List.mem_of_getElem? (i := 31) rfl))) (hw _ (List.mem_of_getElem? (i := 7) rfl)) (ty := .int) (by decide) rfl rfl (hb hby d6_51) (pc' := 54) rfl (fun T241 h241 X241 e241 W241 => ?_)
  have F241 := F_size.same W241
  have KP241 := KP0.wr W241 (Or.inl (by simp))
  have N241 := Fr.snoc X241 N0 g_ob
  have zn241 : n0 ≤ h241.size := by rw [W241.size]; exact Z0
  refine w_iload X241 hx (hb hby d6_54) (pc' := 56) rfl rfl ?_
  have hf56 : (0 : Int32) < (4 : Int32) := (by decide)
  refine w_if_le X241 hx (hb hby d6_56) (pf := 59) (pt := 105) rfl (by decide) (by decide) (fun hc => absurd hf56 hc) (fun hc56 => ?_)
  refine w_aloadN X241 hx (hb hby d6_59) (pc' := 60) rfl rfl rfl ?_
  have f242 := F_heap.other W241 (Or.inr (slot_ne (Or.inl (hw _ (List.mem_of_getElem? (i := 20) rfl))) (Or.inl (hw _ (List.mem_of_getElem? (i := 31) rfl))) (by decide) (t := (.array .long)) (t' := .int) (by decide) (by decide)))
  refine w_getF X241 hx hZ hown e241 f242 (hw _ (List.mem_of_getElem? (i := 19) rfl)) (hb hby d6_60) (pc' := 63) rfl (fun T243 X243 e243 => ?_)
  refine w_iload X243 hx (hb hby d6_63) (pc' := 65) rfl rfl ?_
  refine w_iconst (v := 1) X243 hx (hb hby d6_65) (pc' := 66) rfl rfl ?_
  refine w_isub X243 hx (hb hby d6_66) (pc' := 67) rfl ?_
  rw [show ((4 : Int32) - (1 : Int32)) = (3 : Int32) from by decide]
  refine w_iconst (v := 1) X243 hx (hb hby d6_67) (pc' := 68) rfl rfl ?_
  refine w_iushr X243 hx (hb hby d6_68) (pc' := 69) rfl ?_
  rw [show (jushr (3 : Int32) (1 : Int32)) = (1 : Int32) from by decide]
  have f244 := V_hp.other W241 nho
  refine w_laload X243 hx hZ e243 f244 (v := y1) (by decide) rfl (hb hby d6_69) (pc' := 70) rfl ?_
  refine w_lload X243 hx (hb hby d6_70) (pc' := 72) rfl rfl ?_
  refine w_lcmp X243 hx (hb hby d6_72) (pc' := 73) rfl ?_
  refine w_ifL_le X243 hx (hb hby d6_73) (pf := 76) (pt := 105) rfl (by decide) (by decide) (fun hc73 => ?_) (fun hc73 => ?_)
  · have hz249 := mt Int64.lt_iff_toInt_lt.mpr hc73
    refine w_aloadN X243 hx (hb hby d6_105) (pc' := 106) rfl rfl rfl ?_
    refine w_getF X243 hx hZ hown e243 f242 (hw _ (List.mem_of_getElem? (i := 19) rfl)) (hb hby d6_106) (pc' := 109) rfl (fun T245 X245 e245 => ?_)
    refine w_iload X245 hx (hb hby d6_109) (pc' := 111) rfl rfl ?_
    refine w_lload X245 hx (hb hby d6_111) (pc' := 113) rfl rfl ?_
    refine w_lastore X245 hx hZ e245 f244 (by decide) (by show (4 : Nat) < rest.length + 1 + 1 + 1 + 1 + 1; omega) (hb hby d6_113) (pc' := 114) rfl (fun T246 h246 X246 e246 W246 V246 => ?_)
    have V246 : AJ Z h246 hp (y0 :: y1 :: y2 :: y3 :: ev :: rest) := V246
    have KP246 := KP241.wr W246 (Or.inl (by simp))
    have N246 := Fr.snoc X246 N241 g_hp
    have zn246 : n0 ≤ h246.size := by rw [W246.size]; exact zn241
    have f247 := f242.other W246 (Or.inl (Ne.symm nho))
    have f248 := F241.other W246 (Or.inl (Ne.symm nho))
    exact w_retV X246 hx hret hlk (hb hby d6_114) (by decide) (by decide) (by rw [e246]; exact ⟨rfl, N246, KP246, hp, y0, y1, y2, y3, ev, rest, f247, f248, V246, hrl, (by omega), (fun f => by omega), nho, Or.inl rfl⟩)
  · have hz272 := Int64.lt_iff_toInt_lt.mp hc73
    refine w_aloadN X243 hx (hb hby d6_76) (pc' := 77) rfl rfl rfl ?_
    refine w_getF X243 hx hZ hown e243 f242 (hw _ (List.mem_of_getElem? (i := 19) rfl)) (hb hby d6_77) (pc' := 80) rfl (fun T250 X250 e250 => ?_)
    refine w_iload X250 hx (hb hby d6_80) (pc' := 82) rfl rfl ?_
    refine w_aloadN X250 hx (hb hby d6_82) (pc' := 83) rfl rfl rfl ?_
    refine w_getF X250 hx hZ hown e250 f242 (hw _ (List.mem_of_getElem? (i := 19) rfl)) (hb hby d6_83) (pc' := 86) rfl (fun T251 X251 e251 => ?_)
    refine w_iload X251 hx (hb hby d6_86) (pc' := 88) rfl rfl ?_
    refine w_iconst (v := 1) X251 hx (hb hby d6_88) (pc' := 89) rfl rfl ?_
    refine w_isub X251 hx (hb hby d6_89) (pc' := 90) rfl ?_
    rw [show ((4 : Int32) - (1 : Int32)) = (3 : Int32) from by decide]
    refine w_iconst (v := 1) X251 hx (hb hby d6_90) (pc' := 91) rfl rfl ?_
    refine w_iushr X251 hx (hb hby d6_91) (pc' := 92) rfl ?_
    rw [show (jushr (3 : Int32) (1 : Int32)) = (1 : Int32) from by decide]
    refine w_laload X251 hx hZ e251 f244 (v := y1) (by decide) rfl (hb hby d6_92) (pc' := 93) rfl ?_
    refine w_lastore X251 hx hZ e251 f244 (by decide) (by show (4 : Nat) < rest.length + 1 + 1 + 1 + 1 + 1; omega) (hb hby d6_93) (pc' := 94) rfl (fun T252 h252 X252 e252 W252 V252 => ?_)
    have V252 : AJ Z h252 hp (y0 :: y1 :: y2 :: y3 :: y1 :: rest) := V252
    have KP252 := KP241.wr W252 (Or.inl (by simp))
    have N252 := Fr.snoc X252 N241 g_hp
    have zn252 : n0 ≤ h252.size := by rw [W252.size]; exact zn241
    refine w_iload X252 hx (hb hby d6_94) (pc' := 96) rfl rfl ?_
    refine w_iconst (v := 1) X252 hx (hb hby d6_96) (pc' := 97) rfl rfl ?_
    refine w_isub X252 hx (hb hby d6_97) (pc' := 98) rfl ?_
    rw [show ((4 : Int32) - (1 : Int32)) = (3 : Int32) from by decide]
    refine w_iconst (v := 1) X252 hx (hb hby d6_98) (pc' := 99) rfl rfl ?_
    refine w_iushr X252 hx (hb hby d6_99) (pc' := 100) rfl ?_
    rw [show (jushr (3 : Int32) (1 : Int32)) = (1 : Int32) from by decide]
    refine w_istore (Ls' := #[.val (.ref ob), .val (.long x1), .second, .val (.int x2), .val (.long ev), .second, .val (.int (1 : Int32))]) X252 hx (hb hby d6_100) (pc' := 102) rfl rfl ?_
    refine w_goto X252 hx (hb hby d6_102) (pc' := 54) (by decide) (by decide) ?_
    refine w_iload X252 hx (hb hby d6_54) (pc' := 56) rfl rfl ?_
    have hf56 : (0 : Int32) < (1 : Int32) := (by decide)
    refine w_if_le X252 hx (hb hby d6_56) (pf := 59) (pt := 105) rfl (by decide) (by decide) (fun hc => absurd hf56 hc) (fun hc56 => ?_)
    refine w_aloadN X252 hx (hb hby d6_59) (pc' := 60) rfl rfl rfl ?_
    have f253 := f242.other W252 (Or.inl (Ne.symm nho))
    refine w_getF X252 hx hZ hown e252 f253 (hw _ (List.mem_of_getElem? (i := 19) rfl)) (hb hby d6_60) (pc' := 63) rfl (fun T254 X254 e254 => ?_)
    refine w_iload X254 hx (hb hby d6_63) (pc' := 65) rfl rfl ?_
    refine w_iconst (v := 1) X254 hx (hb hby d6_65) (pc' := 66) rfl rfl ?_
    refine w_isub X254 hx (hb hby d6_66) (pc' := 67) rfl ?_
    rw [show ((1 : Int32) - (1 : Int32)) = (0 : Int32) from by decide]
    refine w_iconst (v := 1) X254 hx (hb hby d6_67) (pc' := 68) rfl rfl ?_
    refine w_iushr X254 hx (hb hby d6_68) (pc' := 69) rfl ?_
    rw [show (jushr (0 : Int32) (1 : Int32)) = (0 : Int32) from by decide]
    refine w_laload X254 hx hZ e254 V252 (v := y0) (by decide) rfl (hb hby d6_69) (pc' := 70) rfl ?_
    refine w_lload X254 hx (hb hby d6_70) (pc' := 72) rfl rfl ?_
    refine w_lcmp X254 hx (hb hby d6_72) (pc' := 73) rfl ?_
    refine w_ifL_le X254 hx (hb hby d6_73) (pf := 76) (pt := 105) rfl (by decide) (by decide) (fun hc73 => ?_) (fun hc73 => ?_)
    · have hz260 := mt Int64.lt_iff_toInt_lt.mpr hc73
      refine w_aloadN X254 hx (hb hby d6_105) (pc' := 106) rfl rfl rfl ?_
      refine w_getF X254 hx hZ hown e254 f253 (hw _ (List.mem_of_getElem? (i := 19) rfl)) (hb hby d6_106) (pc' := 109) rfl (fun T255 X255 e255 => ?_)
      refine w_iload X255 hx (hb hby d6_109) (pc' := 111) rfl rfl ?_
      refine w_lload X255 hx (hb hby d6_111) (pc' := 113) rfl rfl ?_
      refine w_lastore X255 hx hZ e255 V252 (by decide) (by show (1 : Nat) < rest.length + 1 + 1 + 1 + 1 + 1; omega) (hb hby d6_113) (pc' := 114) rfl (fun T256 h256 X256 e256 W256 V256 => ?_)
      have V256 : AJ Z h256 hp (y0 :: ev :: y2 :: y3 :: y1 :: rest) := V256
      have KP256 := KP252.wr W256 (Or.inl (by simp))
      have N256 := Fr.snoc X256 N252 g_hp
      have zn256 : n0 ≤ h256.size := by rw [W256.size]; exact zn252
      have f257 := f253.other W256 (Or.inl (Ne.symm nho))
      have f258 := F241.other W252 (Or.inl (Ne.symm nho))
      have f259 := f258.other W256 (Or.inl (Ne.symm nho))
      exact w_retV X256 hx hret hlk (hb hby d6_114) (by decide) (by decide) (by rw [e256]; exact ⟨rfl, N256, KP256, hp, y0, ev, y2, y3, y1, rest, f257, f259, V256, hrl, (by omega), (fun f => by omega), nho, Or.inl rfl⟩)
    · have hz271 := Int64.lt_iff_toInt_lt.mp hc73
      refine w_aloadN X254 hx (hb hby d6_76) (pc' := 77) rfl rfl rfl ?_
      refine w_getF X254 hx hZ hown e254 f253 (hw _ (List.mem_of_getElem? (i := 19) rfl)) (hb hby d6_77) (pc' := 80) rfl (fun T261 X261 e261 => ?_)
      refine w_iload X261 hx (hb hby d6_80) (pc' := 82) rfl rfl ?_
      refine w_aloadN X261 hx (hb hby d6_82) (pc' := 83) rfl rfl rfl ?_
      refine w_getF X261 hx hZ hown e261 f253 (hw _ (List.mem_of_getElem? (i := 19) rfl)) (hb hby d6_83) (pc' := 86) rfl (fun T262 X262 e262 => ?_)
      refine w_iload X262 hx (hb hby d6_86) (pc' := 88) rfl rfl ?_
      refine w_iconst (v := 1) X262 hx (hb hby d6_88) (pc' := 89) rfl rfl ?_
      refine w_isub X262 hx (hb hby d6_89) (pc' := 90) rfl ?_
      rw [show ((1 : Int32) - (1 : Int32)) = (0 : Int32) from by decide]
      refine w_iconst (v := 1) X262 hx (hb hby d6_90) (pc' := 91) rfl rfl ?_
      refine w_iushr X262 hx (hb hby d6_91) (pc' := 92) rfl ?_
      rw [show (jushr (0 : Int32) (1 : Int32)) = (0 : Int32) from by decide]
      refine w_laload X262 hx hZ e262 V252 (v := y0) (by decide) rfl (hb hby d6_92) (pc' := 93) rfl ?_
      refine w_lastore X262 hx hZ e262 V252 (by decide) (by show (1 : Nat) < rest.length + 1 + 1 + 1 + 1 + 1; omega) (hb hby d6_93) (pc' := 94) rfl (fun T263 h263 X263 e263 W263 V263 => ?_)
      have V263 : AJ Z h263 hp (y0 :: y0 :: y2 :: y3 :: y1 :: rest) := V263
      have KP263 := KP252.wr W263 (Or.inl (by simp))
      have N263 := Fr.snoc X263 N252 g_hp
      have zn263 : n0 ≤ h263.size := by rw [W263.size]; exact zn252
      refine w_iload X263 hx (hb hby d6_94) (pc' := 96) rfl rfl ?_
      refine w_iconst (v := 1) X263 hx (hb hby d6_96) (pc' := 97) rfl rfl ?_
      refine w_isub X263 hx (hb hby d6_97) (pc' := 98) rfl ?_
      rw [show ((1 : Int32) - (1 : Int32)) = (0 : Int32) from by decide]
      refine w_iconst (v := 1) X263 hx (hb hby d6_98) (pc' := 99) rfl rfl ?_
      refine w_iushr X263 hx (hb hby d6_99) (pc' := 100) rfl ?_
      rw [show (jushr (0 : Int32) (1 : Int32)) = (0 : Int32) from by decide]
      refine w_istore (Ls' := #[.val (.ref ob), .val (.long x1), .second, .val (.int x2), .val (.long ev), .second, .val (.int (0 : Int32))]) X263 hx (hb hby d6_100) (pc' := 102) rfl rfl ?_
      refine w_goto X263 hx (hb hby d6_102) (pc' := 54) (by decide) (by decide) ?_
      refine w_iload X263 hx (hb hby d6_54) (pc' := 56) rfl rfl ?_
      have hf56 : ¬ ((0 : Int32) < (0 : Int32)) := (by decide)
      refine w_if_le X263 hx (hb hby d6_56) (pf := 59) (pt := 105) rfl (by decide) (by decide) (fun hc56 => ?_) (fun hc => absurd hc hf56)
      refine w_aloadN X263 hx (hb hby d6_105) (pc' := 106) rfl rfl rfl ?_
      have f264 := f253.other W263 (Or.inl (Ne.symm nho))
      refine w_getF X263 hx hZ hown e263 f264 (hw _ (List.mem_of_getElem? (i := 19) rfl)) (hb hby d6_106) (pc' := 109) rfl (fun T265 X265 e265 => ?_)
      refine w_iload X265 hx (hb hby d6_109) (pc' := 111) rfl rfl ?_
      refine w_lload X265 hx (hb hby d6_111) (pc' := 113) rfl rfl ?_
      refine w_lastore X265 hx hZ e265 V263 (by decide) (by show (0 : Nat) < rest.length + 1 + 1 + 1 + 1 + 1; omega) (hb hby d6_113) (pc' := 114) rfl (fun T266 h266 X266 e266 W266 V266 => ?_)
      have V266 : AJ Z h266 hp (ev :: y0 :: y2 :: y3 :: y1 :: rest) := V266
      have KP266 := KP263.wr W266 (Or.inl (by simp))
      have N266 := Fr.snoc X266 N263 g_hp
      have zn266 : n0 ≤ h266.size := by rw [W266.size]; exact zn263
      have f267 := f264.other W266 (Or.inl (Ne.symm nho))
      have f268 := F241.other W252 (Or.inl (Ne.symm nho))
      have f269 := f268.other W263 (Or.inl (Ne.symm nho))
      have f270 := f269.other W266 (Or.inl (Ne.symm nho))
      exact w_retV X266 hx hret hlk (hb hby d6_114) (by decide) (by decide) (by rw [e266]; exact ⟨rfl, N266, KP266, hp, ev, y0, y2, y3, y1, rest, f267, f270, V266, hrl, (by omega), (fun f => by omega), nho, Or.inl rfl⟩)
set_option maxRecDepth 65536 in
set_option maxHeartbeats 40000000 in
theorem rm6f_4 (l : Launch) (Z : State) (a0 : Array Value) (hw : ∀ d ∈ tables_1, d.before a0 Z = true) (ob : Addr) (x1 : Int64) (x2 : Int32) (h0 : Heap) (n0 : Nat) (Z0 : n0 ≤ h0.size) (hp : Addr) (ev : Int64) (y0 : Int64) (y1 : Int64) (y2 : Int64) (y3 : Int64) (E_ob : Exa Z h0 ob "com/example/facet/facet/regex/MinQueue") (g_ob : n0 ≤ ob) (g_hp : n0 ≤ hp) (F_heap : Fld Z h0 ob "com/example/facet/facet/regex/MinQueue" "heap" "[J" (.ref hp)) (F_size : Fld Z h0 ob "com/example/facet/facet/regex/MinQueue" "size" "I" (.int (4 : Int32))) (V_hp : AJ Z h0 hp (y0 :: y1 :: y2 :: y3 :: [])) (nho : hp ≠ ob) (hO : y0.toInt ≤ y1.toInt ∧ y0.toInt ≤ y2.toInt ∧ y1.toInt ≤ y3.toInt) (hev : ((x1 <<< ((32 : Int32) &&& 0x3f).toInt64) ||| x2.toInt64) = ev) :
    Con l Z (⟨"com/example/facet/facet/regex/MinQueue", "add", "(JI)V"⟩ : MethodName) prog_33_method_3_code 7 none ({ frames := 2, cells := 1, slots := 8, locals := 72 } : Room) #[(.ref ob), (.long x1), (.int x2)] h0 (fun v h L => v = none ∧ Fr n0 L ∧ Keep h0 h [ob, hp] ∧ ∃ (b : Addr) (k0 k1 k2 k3 k4 : Int64) (rs : List Int64), Fld Z h ob "com/example/facet/facet/regex/MinQueue" "heap" "[J" (.ref b) ∧ Fld Z h ob "com/example/facet/facet/regex/MinQueue" "size" "I" (.int (5 : Int32)) ∧ AJ Z h b (k0 :: k1 :: k2 :: k3 :: k4 :: rs) ∧ rs.length ≤ 3 ∧ (k0.toInt ≤ k1.toInt ∧ k0.toInt ≤ k2.toInt ∧ k1.toInt ≤ k3.toInt ∧ k1.toInt ≤ k4.toInt) ∧ (∀ f : Int64 → Nat, f k0 + f k1 + f k2 + f k3 + f k4 = f y0 + f y1 + f y2 + f y3 + f ev) ∧ b ≠ ob ∧ (b = hp ∨ h0.size ≤ b)) := by
  refine Con.of (plainFor_of_name (by first | (simp [plainName, overriddenIn]; done) | decide +kernel)) ?_
  intro p e s m below meth c T X hx hZ hby hml hown hnm hret hlk e0
  rw [ef_6]
  have N0 := Fr.nil n0
  have KP0 := Keep.refl h0 [ob, hp]
  show Go p e below s 1 8 (fun v h L => v = none ∧ Fr n0 L ∧ Keep h0 h [ob, hp] ∧ ∃ (b : Addr) (k0 k1 k2 k3 k4 : Int64) (rs : List Int64), Fld Z h ob "com/example/facet/facet/regex/MinQueue" "heap" "[J" (.ref b) ∧ Fld Z h ob "com/example/facet/facet/regex/MinQueue" "size" "I" (.int (5 : Int32)) ∧ AJ Z h b (k0 :: k1 :: k2 :: k3 :: k4 :: rs) ∧ rs.length ≤ 3 ∧ (k0.toInt ≤ k1.toInt ∧ k0.toInt ≤ k2.toInt ∧ k1.toInt ≤ k3.toInt ∧ k1.toInt ≤ k4.toInt) ∧ (∀ f : Int64 → Nat, f k0 + f k1 + f k2 + f k3 + f k4 = f y0 + f y1 + f y2 + f y3 + f ev) ∧ b ≠ ob ∧ (b = hp ∨ h0.size ≤ b)) T (mkF m 0 #[.val (.ref ob), .val (.long x1), .second, .val (.int x2), .unset, .unset, .unset] [])
  refine w_aloadN X hx (hb hby d6_0) (pc' := 1) rfl rfl rfl ?_
  refine w_getF X hx hZ hown e0 F_size (hw _ (List.mem_of_getElem? (i := 30) rfl)) (hb hby d6_1) (pc' := 4) rfl (fun T273 X273 e273 => ?_)
  refine w_aloadN X273 hx (hb hby d6_4) (pc' := 5) rfl rfl rfl ?_
  refine w_getF X273 hx hZ hown e273 F_heap (hw _ (List.mem_of_getElem? (i := 19) rfl)) (hb hby d6_5) (pc' := 8) rfl (fun T274 X274 e274 => ?_)
  refine w_alenJ X274 hx hZ e274 V_hp (n := (4 : Int32)) rfl (hb hby d6_8) (pc' := 9) rfl ?_
  have hf9 : (4 : Int32) = (4 : Int32) := (by decide)
  refine w_icmp_ne X274 hx (hb hby d6_9) (pf := 12) (pt := 29) rfl (by decide) (by decide) (fun hc => absurd hf9 hc) (fun hc9 => ?_)
  refine w_aloadN X274 hx (hb hby d6_12) (pc' := 13) rfl rfl rfl ?_
  refine w_aloadN X274 hx (hb hby d6_13) (pc' := 14) rfl rfl rfl ?_
  refine w_getF X274 hx hZ hown e274 F_heap (hw _ (List.mem_of_getElem? (i := 19) rfl)) (hb hby d6_14) (pc' := 17) rfl (fun T275 X275 e275 => ?_)
  refine w_iconst (v := 2) X275 hx (hb hby d6_17) (pc' := 18) rfl rfl ?_
  refine w_aloadN X275 hx (hb hby d6_18) (pc' := 19) rfl rfl rfl ?_
  refine w_getF X275 hx hZ hown e275 F_size (hw _ (List.mem_of_getElem? (i := 30) rfl)) (hb hby d6_19) (pc' := 22) rfl (fun T276 X276 e276 => ?_)
  refine w_imul X276 hx (hb hby d6_22) (pc' := 23) rfl ?_
  rw [show ((2 : Int32) * (4 : Int32)) = (8 : Int32) from by decide]
  refine w_callS (argsL := [(.ref hp), (.int (8 : Int32))]) (rest := [(.ref ob)]) X276 hx hZ hown e276 (rm7 l Z a0 hw hp (8 : Int32) h0 n0 Z0 [y0, y1, y2, y3] V_hp (by simp) rfl) (hw _ (List.mem_of_getElem? (i := 32) rfl)) (hw _ (List.mem_of_getElem? (i := 33) rfl)) (hw _ (List.mem_of_getElem? (i := 34) rfl)) (hw _ (List.mem_of_getElem? (i := 35) rfl)) (by decide) (by decide) (W := 1) (by decide) (by decide) (by decide) (by rw [hml]; rfl) (lenOf pd_1 rfl) (Nat.le_refl _) rfl (hb hby d6_23) (pc' := 26) rfl (fun T277 L277 v277 X277 hQ277 => ?_)
  obtain ⟨b277, rfl, N277q, K277, sz277, V277⟩ := hQ277
  have zn277 : n0 ≤ T277.heap.size := Nat.le_trans Z0 K277.1
  have KP277 := KP0.trans K277 all0
  have g_b277 : n0 ≤ b277 := Nat.le_trans Z0 sz277
  have sz_b277 : h0.size ≤ b277 := Nat.le_trans KP0.1 sz277
  have ne_ob_b277 : ob ≠ b277 := Nat.ne_of_lt (Nat.lt_of_lt_of_le E_ob.lt sz277)
  have ne_hp_b277 : hp ≠ b277 := Nat.ne_of_lt (Nat.lt_of_lt_of_le V_hp.lt sz277)
  have N277 := Fr.app N0 N277q
  have X277 : Stand p l e ({ frames := 2, cells := 1, slots := 8, locals := 72 } : Room) s m _ below meth c T277 _ 1 8 := X277
  have V277 : AJ Z T277.heap b277 [y0, y1, y2, y3, (0 : Int64), (0 : Int64), (0 : Int64), (0 : Int64)] := V277
  show Go p e below s 1 8 (fun v h L => v = none ∧ Fr n0 L ∧ Keep h0 h [ob, hp] ∧ ∃ (b : Addr) (k0 k1 k2 k3 k4 : Int64) (rs : List Int64), Fld Z h ob "com/example/facet/facet/regex/MinQueue" "heap" "[J" (.ref b) ∧ Fld Z h ob "com/example/facet/facet/regex/MinQueue" "size" "I" (.int (5 : Int32)) ∧ AJ Z h b (k0 :: k1 :: k2 :: k3 :: k4 :: rs) ∧ rs.length ≤ 3 ∧ (k0.toInt ≤ k1.toInt ∧ k0.toInt ≤ k2.toInt ∧ k1.toInt ≤ k3.toInt ∧ k1.toInt ≤ k4.toInt) ∧ (∀ f : Int64 → Nat, f k0 + f k1 + f k2 + f k3 + f k4 = f y0 + f y1 + f y2 + f y3 + f ev) ∧ b ≠ ob ∧ (b = hp ∨ h0.size ≤ b)) T277 (mkF m 26 #[.val (.ref ob), .val (.long x1), .second, .val (.int x2), .unset, .unset, .unset] [(.ref b277), (.ref ob)])
  have f278 := F_heap.keep K277 nin0
  have f279 := E_ob.keep K277
  refine w_putF X277 hx hZ hown rfl f278 f279 (hw _ (List.mem_of_getElem? (i := 19) rfl)) (Or.inl (hw _ (List.mem_of_getElem? (i := 20) rfl))) (hw _ (List.mem_of_getElem? (i := 7) rfl)) (ty := (.array .long)) (by decide) rfl rfl (hb hby d6_26) (pc' := 29) rfl (fun T280 h280 X280 e280 W280 => ?_)
  have F280 := f278.same W280
  have KP280 := KP277.wr W280 (Or.inl (by simp))
  have N280 := Fr.snoc X280 N277 g_ob
  have zn280 : n0 ≤ h280.size := by rw [W280.size]; exact zn277
  refine w_lloadN X280 hx (hb hby d6_29) (pc' := 30) rfl rfl ?_
  refine w_bipush (v := 32) X280 hx (hb hby d6_30) (pc' := 32) rfl rfl ?_
  refine w_lshl X280 hx (hb hby d6_32) (pc' := 33) rfl ?_
  refine w_iloadN X280 hx (hb hby d6_33) (pc' := 34) rfl rfl ?_
  refine w_i2l X280 hx (hb hby d6_34) (pc' := 35) rfl ?_
  refine w_lor X280 hx (hb hby d6_35) (pc' := 36) rfl ?_
  refine w_lstore (Ls' := #[.val (.ref ob), .val (.long x1), .second, .val (.int x2), .val (.long ((x1 <<< ((32 : Int32) &&& 0x3f).toInt64) ||| x2.toInt64)), .second, .unset]) X280 hx (hb hby d6_36) (pc' := 38) rfl rfl ?_
  rw [hev]
  refine w_aloadN X280 hx (hb hby d6_38) (pc' := 39) rfl rfl rfl ?_
  have f281 := F_size.keep K277 nin0
  have f282 := f281.other W280 (Or.inr (slot_ne (Or.inl (hw _ (List.mem_of_getElem? (i := 31) rfl))) (Or.inl (hw _ (List.mem_of_getElem? (i := 20) rfl))) (by decide) (t := .int) (t' := (.array .long)) (by decide) (by decide)))
  refine w_getF X280 hx hZ hown e280 f282 (hw _ (List.mem_of_getElem? (i := 30) rfl)) (hb hby d6_39) (pc' := 42) rfl (fun T283 X283 e283 => ?_)
  refine w_istore (Ls' := #[.val (.ref ob), .val (.long x1), .second, .val (.int x2), .val (.long ev), .second, .val (.int (4 : Int32))]) X283 hx (hb hby d6_42) (pc' := 44) rfl rfl ?_
  refine w_aloadN X283 hx (hb hby d6_44) (pc' := 45) rfl rfl rfl ?_
  refine w_dup X283 hx (hb hby d6_45) (pc' := 46) rfl rfl ?_
  refine w_getF X283 hx hZ hown e283 f282 (hw _ (List.mem_of_getElem? (i := 30) rfl)) (hb hby d6_46) (pc' := 49) rfl (fun T284 X284 e284 => ?_)
  refine w_iconst (v := 1) X284 hx (hb hby d6_49) (pc' := 50) rfl rfl ?_
  refine w_iadd X284 hx (hb hby d6_50) (pc' := 51) rfl ?_
  rw [show ((4 : Int32) + (1 : Int32)) = (5 : Int32) from by decide]
  have f285 := f279.wr W280
  refine w_putF X284 hx hZ hown e284 f282 f285 (hw _ (List.mem_of_getElem? (i := 30) rfl)) (Or.inl (hw _ (List.mem_of_getElem? (i := 31) rfl))) (hw _ (List.mem_of_getElem? (i := 7) rfl)) (ty := .int) (by decide) rfl rfl (hb hby d6_51) (pc' := 54) rfl (fun T286 h286 X286 e286 W286 => ?_)
  have F286 := f282.same W286
  have KP286 := KP280.wr W286 (Or.inl (by simp))
  have N286 := Fr.snoc X286 N280 g_ob
  have zn286 : n0 ≤ h286.size := by rw [W286.size]; exact zn280
  refine w_iload X286 hx (hb hby d6_54) (pc' := 56) rfl rfl ?_
  have hf56 : (0 : Int32) < (4 : Int32) := (by decide)
  refine w_if_le X286 hx (hb hby d6_56) (pf := 59) (pt := 105) rfl (by decide) (by decide) (fun hc => absurd hf56 hc) (fun hc56 => ?_)
  refine w_aloadN X286 hx (hb hby d6_59) (pc' := 60) rfl rfl rfl ?_
  have f287 := F280.other W286 (Or.inr (slot_ne (Or.inl (hw _ (List.mem_of_getElem? (i := 20) rfl))) (Or.inl (hw _ (List.mem_of_getElem? (i := 31) rfl))) (by decide) (t := (.array .long)) (t' := .int) (by decide) (by decide)))
  refine w_getF X286 hx hZ hown e286 f287 (hw _ (List.mem_of_getElem? (i := 19) rfl)) (hb hby d6_60) (pc' := 63) rfl (fun T288 X288 e288 => ?_)
  refine w_iload X288 hx (hb hby d6_63) (pc' := 65) rfl rfl ?_
  refine w_iconst (v := 1) X288 hx (hb hby d6_65) (pc' := 66) rfl rfl ?_
  refine w_isub X288 hx (hb hby d6_66) (pc' := 67) rfl ?_
  rw [show ((4 : Int32) - (1 : Int32)) = (3 : Int32) from by decide]
  refine w_iconst (v := 1) X288 hx (hb hby d6_67) (pc' := 68) rfl rfl ?_
  refine w_iushr X288 hx (hb hby d6_68) (pc' := 69) rfl ?_
  rw [show (jushr (3 : Int32) (1 : Int32)) = (1 : Int32) from by decide]
  have f289 := V277.other W280 (Ne.symm ne_ob_b277)
  have f290 := f289.other W286 (Ne.symm ne_ob_b277)
  refine w_laload X288 hx hZ e288 f290 (v := y1) (by decide) rfl (hb hby d6_69) (pc' := 70) rfl ?_
  refine w_lload X288 hx (hb hby d6_70) (pc' := 72) rfl rfl ?_
  refine w_lcmp X288 hx (hb hby d6_72) (pc' := 73) rfl ?_
  refine w_ifL_le X288 hx (hb hby d6_73) (pf := 76) (pt := 105) rfl (by decide) (by decide) (fun hc73 => ?_) (fun hc73 => ?_)
  · have hz295 := mt Int64.lt_iff_toInt_lt.mpr hc73
    refine w_aloadN X288 hx (hb hby d6_105) (pc' := 106) rfl rfl rfl ?_
    refine w_getF X288 hx hZ hown e288 f287 (hw _ (List.mem_of_getElem? (i := 19) rfl)) (hb hby d6_106) (pc' := 109) rfl (fun T291 X291 e291 => ?_)
    refine w_iload X291 hx (hb hby d6_109) (pc' := 111) rfl rfl ?_
    refine w_lload X291 hx (hb hby d6_111) (pc' := 113) rfl rfl ?_
    refine w_lastore X291 hx hZ e291 f290 (by decide) (by show _ < 8; decide) (hb hby d6_113) (pc' := 114) rfl (fun T292 h292 X292 e292 W292 V292 => ?_)
    have V292 : AJ Z h292 b277 [y0, y1, y2, y3, ev, (0 : Int64), (0 : Int64), (0 : Int64)] := V292
    have KP292 := KP286.wr W292 (Or.inr sz_b277)
    have N292 := Fr.snoc X292 N286 g_b277
    have zn292 : n0 ≤ h292.size := by rw [W292.size]; exact zn286
    have f293 := f287.other W292 (Or.inl ne_ob_b277)
    have f294 := F286.other W292 (Or.inl ne_ob_b277)
    exact w_retV X292 hx hret hlk (hb hby d6_114) (by decide) (by decide) (by rw [e292]; exact ⟨rfl, N292, KP292, b277, y0, y1, y2, y3, ev, [(0 : Int64), (0 : Int64), (0 : Int64)], f293, f294, V292, (by decide), (by omega), (fun f => by omega), (Ne.symm ne_ob_b277), Or.inr sz_b277⟩)
  · have hz318 := Int64.lt_iff_toInt_lt.mp hc73
    refine w_aloadN X288 hx (hb hby d6_76) (pc' := 77) rfl rfl rfl ?_
    refine w_getF X288 hx hZ hown e288 f287 (hw _ (List.mem_of_getElem? (i := 19) rfl)) (hb hby d6_77) (pc' := 80) rfl (fun T296 X296 e296 => ?_)
    refine w_iload X296 hx (hb hby d6_80) (pc' := 82) rfl rfl ?_
    refine w_aloadN X296 hx (hb hby d6_82) (pc' := 83) rfl rfl rfl ?_
    refine w_getF X296 hx hZ hown e296 f287 (hw _ (List.mem_of_getElem? (i := 19) rfl)) (hb hby d6_83) (pc' := 86) rfl (fun T297 X297 e297 => ?_)
    refine w_iload X297 hx (hb hby d6_86) (pc' := 88) rfl rfl ?_
    refine w_iconst (v := 1) X297 hx (hb hby d6_88) (pc' := 89) rfl rfl ?_
    refine w_isub X297 hx (hb hby d6_89) (pc' := 90) rfl ?_
    rw [show ((4 : Int32) - (1 : Int32)) = (3 : Int32) from by decide]
    refine w_iconst (v := 1) X297 hx (hb hby d6_90) (pc' := 91) rfl rfl ?_
    refine w_iushr X297 hx (hb hby d6_91) (pc' := 92) rfl ?_
    rw [show (jushr (3 : Int32) (1 : Int32)) = (1 : Int32) from by decide]
    refine w_laload X297 hx hZ e297 f290 (v := y1) (by decide) rfl (hb hby d6_92) (pc' := 93) rfl ?_
    refine w_lastore X297 hx hZ e297 f290 (by decide) (by show _ < 8; decide) (hb hby d6_93) (pc' := 94) rfl (fun T298 h298 X298 e298 W298 V298 => ?_)
    have V298 : AJ Z h298 b277 [y0, y1, y2, y3, y1, (0 : Int64), (0 : Int64), (0 : Int64)] := V298
    have KP298 := KP286.wr W298 (Or.inr sz_b277)
    have N298 := Fr.snoc X298 N286 g_b277
    have zn298 : n0 ≤ h298.size := by rw [W298.size]; exact zn286
    refine w_iload X298 hx (hb hby d6_94) (pc' := 96) rfl rfl ?_
    refine w_iconst (v := 1) X298 hx (hb hby d6_96) (pc' := 97) rfl rfl ?_
    refine w_isub X298 hx (hb hby d6_97) (pc' := 98) rfl ?_
    rw [show ((4 : Int32) - (1 : Int32)) = (3 : Int32) from by decide]
    refine w_iconst (v := 1) X298 hx (hb hby d6_98) (pc' := 99) rfl rfl ?_
    refine w_iushr X298 hx (hb hby d6_99) (pc' := 100) rfl ?_
    rw [show (jushr (3 : Int32) (1 : Int32)) = (1 : Int32) from by decide]
    refine w_istore (Ls' := #[.val (.ref ob), .val (.long x1), .second, .val (.int x2), .val (.long ev), .second, .val (.int (1 : Int32))]) X298 hx (hb hby d6_100) (pc' := 102) rfl rfl ?_
    refine w_goto X298 hx (hb hby d6_102) (pc' := 54) (by decide) (by decide) ?_
    refine w_iload X298 hx (hb hby d6_54) (pc' := 56) rfl rfl ?_
    have hf56 : (0 : Int32) < (1 : Int32) := (by decide)
    refine w_if_le X298 hx (hb hby d6_56) (pf := 59) (pt := 105) rfl (by decide) (by decide) (fun hc => absurd hf56 hc) (fun hc56 => ?_)
    refine w_aloadN X298 hx (hb hby d6_59) (pc' := 60) rfl rfl rfl ?_
    have f299 := f287.other W298 (Or.inl ne_ob_b277)
    refine w_getF X298 hx hZ hown e298 f299 (hw _ (List.mem_of_getElem? (i := 19) rfl)) (hb hby d6_60) (pc' := 63) rfl (fun T300 X300 e300 => ?_)
    refine w_iload X300 hx (hb hby d6_63) (pc' := 65) rfl rfl ?_
    refine w_iconst (v := 1) X300 hx (hb hby d6_65) (pc' := 66) rfl rfl ?_
    refine w_isub X300 hx (hb hby d6_66) (pc' := 67) rfl ?_
    rw [show ((1 : Int32) - (1 : Int32)) = (0 : Int32) from by decide]
    refine w_iconst (v := 1) X300 hx (hb hby d6_67) (pc' := 68) rfl rfl ?_
    refine w_iushr X300 hx (hb hby d6_68) (pc' := 69) rfl ?_
    rw [show (jushr (0 : Int32) (1 : Int32)) = (0 : Int32) from by decide]
    refine w_laload X300 hx hZ e300 V298 (v := y0) (by decide) rfl (hb hby d6_69) (pc' := 70) rfl ?_
    refine w_lload X300 hx (hb hby d6_70) (pc' := 72) rfl rfl ?_
    refine w_lcmp X300 hx (hb hby d6_72) (pc' := 73) rfl ?_
    refine w_ifL_le X300 hx (hb hby d6_73) (pf := 76) (pt := 105) rfl (by decide) (by decide) (fun hc73 => ?_) (fun hc73 => ?_)
    · have hz306 := mt Int64.lt_iff_toInt_lt.mpr hc73
      refine w_aloadN X300 hx (hb hby d6_105) (pc' := 106) rfl rfl rfl ?_
      refine w_getF X300 hx hZ hown e300 f299 (hw _ (List.mem_of_getElem? (i := 19) rfl)) (hb hby d6_106) (pc' := 109) rfl (fun T301 X301 e301 => ?_)
      refine w_iload X301 hx (hb hby d6_109) (pc' := 111) rfl rfl ?_
      refine w_lload X301 hx (hb hby d6_111) (pc' := 113) rfl rfl ?_
      refine w_lastore X301 hx hZ e301 V298 (by decide) (by show _ < 8; decide) (hb hby d6_113) (pc' := 114) rfl (fun T302 h302 X302 e302 W302 V302 => ?_)
      have V302 : AJ Z h302 b277 [y0, ev, y2, y3, y1, (0 : Int64), (0 : Int64), (0 : Int64)] := V302
      have KP302 := KP298.wr W302 (Or.inr sz_b277)
      have N302 := Fr.snoc X302 N298 g_b277
      have zn302 : n0 ≤ h302.size := by rw [W302.size]; exact zn298
      have f303 := f299.other W302 (Or.inl ne_ob_b277)
      have f304 := F286.other W298 (Or.inl ne_ob_b277)
      have f305 := f304.other W302 (Or.inl ne_ob_b277)
      exact w_retV X302 hx hret hlk (hb hby d6_114) (by decide) (by decide) (by rw [e302]; exact ⟨rfl, N302, KP302, b277, y0, ev, y2, y3, y1, [(0 : Int64), (0 : Int64), (0 : Int64)], f303, f305, V302, (by decide), (by omega), (fun f => by omega), (Ne.symm ne_ob_b277), Or.inr sz_b277⟩)
    · have hz317 := Int64.lt_iff_toInt_lt.mp hc73
      refine w_aloadN X300 hx (hb hby d6_76) (pc' := 77) rfl rfl rfl ?_
      refine w_getF X300 hx hZ hown e300 f299 (hw _ (List.mem_of_getElem? (i := 19) rfl)) (hb hby d6_77) (pc' := 80) rfl (fun T307 X307 e307 => ?_)
      refine w_iload X307 hx (hb hby d6_80) (pc' := 82) rfl rfl ?_
      refine w_aloadN X307 hx (hb hby d6_82) (pc' := 83) rfl rfl rfl ?_
      refine w_getF X307 hx hZ hown e307 f299 (hw _ (List.mem_of_getElem? (i := 19) rfl)) (hb hby d6_83) (pc' := 86) rfl (fun T308 X308 e308 => ?_)
      refine w_iload X308 hx (hb hby d6_86) (pc' := 88) rfl rfl ?_
      refine w_iconst (v := 1) X308 hx (hb hby d6_88) (pc' := 89) rfl rfl ?_
      refine w_isub X308 hx (hb hby d6_89) (pc' := 90) rfl ?_
      rw [show ((1 : Int32) - (1 : Int32)) = (0 : Int32) from by decide]
      refine w_iconst (v := 1) X308 hx (hb hby d6_90) (pc' := 91) rfl rfl ?_
      refine w_iushr X308 hx (hb hby d6_91) (pc' := 92) rfl ?_
      rw [show (jushr (0 : Int32) (1 : Int32)) = (0 : Int32) from by decide]
      refine w_laload X308 hx hZ e308 V298 (v := y0) (by decide) rfl (hb hby d6_92) (pc' := 93) rfl ?_
      refine w_lastore X308 hx hZ e308 V298 (by decide) (by show _ < 8; decide) (hb hby d6_93) (pc' := 94) rfl (fun T309 h309 X309 e309 W309 V309 => ?_)
      have V309 : AJ Z h309 b277 [y0, y0, y2, y3, y1, (0 : Int64), (0 : Int64), (0 : Int64)] := V309
      have KP309 := KP298.wr W309 (Or.inr sz_b277)
      have N309 := Fr.snoc X309 N298 g_b277
      have zn309 : n0 ≤ h309.size := by rw [W309.size]; exact zn298
      refine w_iload X309 hx (hb hby d6_94) (pc' := 96) rfl rfl ?_
      refine w_iconst (v := 1) X309 hx (hb hby d6_96) (pc' := 97) rfl rfl ?_
      refine w_isub X309 hx (hb hby d6_97) (pc' := 98) rfl ?_
      rw [show ((1 : Int32) - (1 : Int32)) = (0 : Int32) from by decide]
      refine w_iconst (v := 1) X309 hx (hb hby d6_98) (pc' := 99) rfl rfl ?_
      refine w_iushr X309 hx (hb hby d6_99) (pc' := 100) rfl ?_
      rw [show (jushr (0 : Int32) (1 : Int32)) = (0 : Int32) from by decide]
      refine w_istore (Ls' := #[.val (.ref ob), .val (.long x1), .second, .val (.int x2), .val (.long ev), .second, .val (.int (0 : Int32))]) X309 hx (hb hby d6_100) (pc' := 102) rfl rfl ?_
      refine w_goto X309 hx (hb hby d6_102) (pc' := 54) (by decide) (by decide) ?_
      refine w_iload X309 hx (hb hby d6_54) (pc' := 56) rfl rfl ?_
      have hf56 : ¬ ((0 : Int32) < (0 : Int32)) := (by decide)
      refine w_if_le X309 hx (hb hby d6_56) (pf := 59) (pt := 105) rfl (by decide) (by decide) (fun hc56 => ?_) (fun hc => absurd hc hf56)
      refine w_aloadN X309 hx (hb hby d6_105) (pc' := 106) rfl rfl rfl ?_
      have f310 := f299.other W309 (Or.inl ne_ob_b277)
      refine w_getF X309 hx hZ hown e309 f310 (hw _ (List.mem_of_getElem? (i := 19) rfl)) (hb hby d6_106) (pc' := 109) rfl (fun T311 X311 e311 => ?_)
      refine w_iload X311 hx (hb hby d6_109) (pc' := 111) rfl rfl ?_
      refine w_lload X311 hx (hb hby d6_111) (pc' := 113) rfl rfl ?_
      refine w_lastore X311 hx hZ e311 V309 (by decide) (by show _ < 8; decide) (hb hby d6_113) (pc' := 114) rfl (fun T312 h312 X312 e312 W312 V312 => ?_)
      have V312 : AJ Z h312 b277 [ev, y0, y2, y3, y1, (0 : Int64), (0 : Int64), (0 : Int64)] := V312
      have KP312 := KP309.wr W312 (Or.inr sz_b277)
      have N312 := Fr.snoc X312 N309 g_b277
      have zn312 : n0 ≤ h312.size := by rw [W312.size]; exact zn309
      have f313 := f310.other W312 (Or.inl ne_ob_b277)
      have f314 := F286.other W298 (Or.inl ne_ob_b277)
      have f315 := f314.other W309 (Or.inl ne_ob_b277)
      have f316 := f315.other W312 (Or.inl ne_ob_b277)
      exact w_retV X312 hx hret hlk (hb hby d6_114) (by decide) (by decide) (by rw [e312]; exact ⟨rfl, N312, KP312, b277, ev, y0, y2, y3, y1, [(0 : Int64), (0 : Int64), (0 : Int64)], f313, f316, V312, (by decide), (by omega), (fun f => by omega), (Ne.symm ne_ob_b277), Or.inr sz_b277⟩)
theorem rm6_4 (l : Launch) (Z : State) (a0 : Array Value) (hw : ∀ d ∈ tables_1, d.before a0 Z = true) (ob : Addr) (x1 : Int64) (x2 : Int32) (h0 : Heap) (n0 : Nat) (Z0 : n0 ≤ h0.size) (hp : Addr) (ev : Int64) (y0 : Int64) (y1 : Int64) (y2 : Int64) (y3 : Int64) (rest : List Int64) (E_ob : Exa Z h0 ob "com/example/facet/facet/regex/MinQueue") (g_ob : n0 ≤ ob) (g_hp : n0 ≤ hp) (F_heap : Fld Z h0 ob "com/example/facet/facet/regex/MinQueue" "heap" "[J" (.ref hp)) (F_size : Fld Z h0 ob "com/example/facet/facet/regex/MinQueue" "size" "I" (.int (4 : Int32))) (V_hp : AJ Z h0 hp (y0 :: y1 :: y2 :: y3 :: rest)) (nho : hp ≠ ob) (hO : y0.toInt ≤ y1.toInt ∧ y0.toInt ≤ y2.toInt ∧ y1.toInt ≤ y3.toInt) (hev : ((x1 <<< ((32 : Int32) &&& 0x3f).toInt64) ||| x2.toInt64) = ev) (hrl : rest.length ≤ 4) :
    Con l Z (⟨"com/example/facet/facet/regex/MinQueue", "add", "(JI)V"⟩ : MethodName) prog_33_method_3_code 7 none ({ frames := 2, cells := 1, slots := 8, locals := 72 } : Room) #[.ref ob, .long x1, .int x2] h0 (fun v h L => v = none ∧ Fr n0 L ∧ Keep h0 h [ob, hp] ∧ ∃ (b : Addr) (k0 k1 k2 k3 k4 : Int64) (rs : List Int64), Fld Z h ob "com/example/facet/facet/regex/MinQueue" "heap" "[J" (.ref b) ∧ Fld Z h ob "com/example/facet/facet/regex/MinQueue" "size" "I" (.int (5 : Int32)) ∧ AJ Z h b (k0 :: k1 :: k2 :: k3 :: k4 :: rs) ∧ rs.length ≤ 3 ∧ (k0.toInt ≤ k1.toInt ∧ k0.toInt ≤ k2.toInt ∧ k1.toInt ≤ k3.toInt ∧ k1.toInt ≤ k4.toInt) ∧ (∀ f : Int64 → Nat, f k0 + f k1 + f k2 + f k3 + f k4 = f y0 + f y1 + f y2 + f y3 + f ev) ∧ b ≠ ob ∧ (b = hp ∨ h0.size ≤ b)) := by
  cases rest with
  | nil => exact rm6f_4 l Z a0 hw ob x1 x2 h0 n0 Z0 hp ev y0 y1 y2 y3 E_ob g_ob g_hp F_heap F_size V_hp nho hO hev
  | cons r rest => exact rm6r_4 l Z a0 hw ob x1 x2 h0 n0 Z0 hp ev y0 y1 y2 y3 r rest E_ob g_ob g_hp F_heap F_size V_hp nho hO hev (by simp at hrl; omega)
theorem own_mlo : ∀ i, i < 64 → (2147483647 : Int64).toBitVec.getLsbD i = decide (i < 31) := by decide +kernel
theorem own_mhi : ∀ i, i < 64 → (-2147483649 : Int64).toBitVec.getLsbD i = decide (i ≠ 31) := by decide +kernel
theorem own_ent (e : Int64) : ((e >>> ((32 : Int32) &&& 0x3f).toInt64) <<< ((32 : Int32) &&& 0x3f).toInt64) ||| ((e &&& (2147483647 : Int64)).toInt32).toInt64 = e &&& (-2147483649 : Int64) := by
  apply Int64.toBitVec_inj.mp
  have e32 : ((32 : Int32).toInt % 64).toNat = 32 := by decide
  have h1 : (e >>> ((32 : Int32) &&& 0x3f).toInt64).toBitVec = e.toBitVec.sshiftRight 32 := by
    rw [Int64.toBitVec_shiftRight, BitVec.sshiftRight', own_smod, e32]
  rw [Int64.toBitVec_or, Int64.toBitVec_and, own_shl_bv, e32, h1]
  have h2 : ((e &&& (2147483647 : Int64)).toInt32).toInt64.toBitVec = ((e.toBitVec &&& (2147483647 : Int64).toBitVec).setWidth 32).signExtend 64 := by
    rw [Int32.toBitVec_toInt64, Int64.toBitVec_toInt32, Int64.toBitVec_and, BitVec.signExtend_eq_setWidth_of_le (v := 32) _ (by decide)]
  rw [h2]
  apply BitVec.eq_of_getLsbD_eq
  intro i hi
  rw [BitVec.getLsbD_or, BitVec.getLsbD_and, BitVec.getLsbD_shiftLeft, BitVec.getLsbD_signExtend, own_mhi i hi]
  have hm : ((e.toBitVec &&& (2147483647 : Int64).toBitVec).setWidth 32).msb = false := by
    rw [BitVec.msb_eq_getLsbD_last, BitVec.getLsbD_setWidth, BitVec.getLsbD_and, own_mlo 31 (by decide)]
    simp
  rw [hm, BitVec.getLsbD_setWidth, BitVec.getLsbD_and, own_mlo i hi, BitVec.getLsbD_sshiftRight]
  by_cases q : i < 32
  · by_cases r : i = 31
    · subst r; simp
    · have : i < 31 := by omega
      simp [q, r, this, hi]
  · have q1 : ¬ i < 31 := by omega
    have q2 : i ≠ 31 := by omega
    have q3 : 32 + (i - 32) = i := by omega
    have q4 : ¬ 64 ≤ i - 32 := by omega
    simp [q, q1, q2, q3, q4, hi]
theorem own_net {a0 a1 a2 a3 a4 b0 b1 c3 c4 d2 d4 e2 e3 f0 f3 g0 g2 h1 h4 i1 i3 j1 j2 : Int64} (p1 : own_P a0 a1 b0 b1) (p2 : own_P a3 a4 c3 c4) (p3 : own_P a2 c4 d2 d4) (p4 : own_P d2 c3 e2 e3) (p5 : own_P b0 e3 f0 f3) (p6 : own_P f0 e2 g0 g2) (p7 : own_P b1 d4 h1 h4) (p8 : own_P h1 f3 i1 i3) (p9 : own_P i1 g2 j1 j2) : g0.toInt ≤ j1.toInt ∧ j1.toInt ≤ j2.toInt ∧ j2.toInt ≤ i3.toInt ∧ i3.toInt ≤ h4.toInt := by
  have l1 := p1.lo
  have l2 := p2.lo
  have l3 := p3.lo
  have l4 := p4.lo
  have l5 := p5.lo
  have l6 := p6.lo
  have l7 := p7.lo
  have l8 := p8.lo
  have l9 := p9.lo
  have m1 := p1.le
  have m2 := p2.le
  have m3 := p3.le
  have m4 := p4.le
  have m5 := p5.le
  have m6 := p6.le
  have m7 := p7.le
  have m8 := p8.le
  have m9 := p9.le
  have t1 := p4.up (z := d4.toInt) (by omega) (by omega)
  have t2 := p7.ge (z := g0.toInt) (by omega) (by omega)
  have t3 := p8.ge (z := g0.toInt) (by omega) (by omega)
  have t4 := p9.ge (z := g0.toInt) (by omega) (by omega)
  have t5 := p6.up (z := f3.toInt) (by omega) (by omega)
  have t6 := p9.up (z := i3.toInt) (by omega) (by omega)
  have t7 := p5.up (z := h4.toInt) (by omega) (by omega)
  have t8 := p8.up (z := h4.toInt) (by omega) (by omega)
  exact ⟨t4, m9, t6, t8⟩
def own_ind (c : Int) (z : Int64) : Nat := if z.toInt < c then 1 else 0
theorem own_ind1 {c : Int} {z : Int64} (h : z.toInt < c) : own_ind c z = 1 := if_pos h
theorem own_ind0 {c : Int} {z : Int64} (h : ¬ z.toInt < c) : own_ind c z = 0 := if_neg h
theorem own_sum0 {c : Int} : ∀ {s : List Int64}, (∀ z ∈ s, c ≤ z.toInt) → (s.map (own_ind c)).sum = 0
  | [], _ => rfl
  | a :: s, h => by
    rw [List.map_cons, List.sum_cons, own_ind0 (by have := h a (by simp); omega), own_sum0 fun z hz => h z (by simp [hz])]
theorem own_eq : ∀ (r s : List Int64), r.Pairwise (fun a b => a.toInt ≤ b.toInt) → s.Pairwise (fun a b => a.toInt ≤ b.toInt) → (∀ f : Int64 → Nat, (r.map f).sum = (s.map f).sum) → r = s
  | [], [], _, _, _ => rfl
  | [], b :: s, _, _, h => by have := h (fun _ => 1); simp only [List.map_nil, List.sum_nil, List.map_cons, List.sum_cons] at this; omega
  | a :: r, [], _, _, h => by have := h (fun _ => 1); simp only [List.map_nil, List.sum_nil, List.map_cons, List.sum_cons] at this; omega
  | a :: r, b :: s, hr, hs, h => by
    have hr' := List.pairwise_cons.mp hr
    have hs' := List.pairwise_cons.mp hs
    have hab : a = b := by
      apply Int64.toInt_inj.mp
      rcases Int.lt_trichotomy a.toInt b.toInt with q | q | q
      · have h1 := h (own_ind b.toInt)
        rw [own_sum0 (s := b :: s) (fun z hz => by rcases List.mem_cons.mp hz with rfl | hz; exact Int.le_refl _; exact hs'.1 z hz), List.map_cons, List.sum_cons, own_ind1 q] at h1
        omega
      · exact q
      · have h1 := h (own_ind a.toInt)
        rw [own_sum0 (s := a :: r) (fun z hz => by rcases List.mem_cons.mp hz with rfl | hz; exact Int.le_refl _; exact hr'.1 z hz), List.map_cons, List.sum_cons, own_ind1 q] at h1
        omega
    subst hab
    rw [own_eq r s hr'.2 hs'.2 fun f => by have := h f; rw [List.map_cons, List.map_cons, List.sum_cons, List.sum_cons] at this; omega]
theorem own_srt {a b c d e : Int64} (h : a.toInt ≤ b.toInt ∧ b.toInt ≤ c.toInt ∧ c.toInt ≤ d.toInt ∧ d.toInt ≤ e.toInt) : [a, b, c, d, e].Pairwise (fun a b => a.toInt ≤ b.toInt) := by
  obtain ⟨h1, h2, h3, h4⟩ := h
  refine List.Pairwise.cons ?_ (List.Pairwise.cons ?_ (List.Pairwise.cons ?_ (List.Pairwise.cons ?_ (List.Pairwise.cons (fun _ q => nomatch q) List.Pairwise.nil))))
  · intro z hz
    simp only [List.mem_cons, List.not_mem_nil, or_false] at hz
    rcases hz with rfl | rfl | rfl | rfl <;> omega
  · intro z hz
    simp only [List.mem_cons, List.not_mem_nil, or_false] at hz
    rcases hz with rfl | rfl | rfl <;> omega
  · intro z hz
    simp only [List.mem_cons, List.not_mem_nil, or_false] at hz
    rcases hz with rfl | rfl <;> omega
  · intro z hz
    simp only [List.mem_cons, List.not_mem_nil, or_false] at hz
    subst hz
    omega
theorem own_five {r0 r1 r2 r3 r4 s0 s1 s2 s3 s4 : Int64} (hr : r0.toInt ≤ r1.toInt ∧ r1.toInt ≤ r2.toInt ∧ r2.toInt ≤ r3.toInt ∧ r3.toInt ≤ r4.toInt) (hs : s0.toInt ≤ s1.toInt ∧ s1.toInt ≤ s2.toInt ∧ s2.toInt ≤ s3.toInt ∧ s3.toInt ≤ s4.toInt) (hf : ∀ f : Int64 → Nat, f r0 + f r1 + f r2 + f r3 + f r4 = f s0 + f s1 + f s2 + f s3 + f s4) : r0 = s0 ∧ r1 = s1 ∧ r2 = s2 ∧ r3 = s3 ∧ r4 = s4 := by
  have h := own_eq [r0, r1, r2, r3, r4] [s0, s1, s2, s3, s4] (own_srt hr) (own_srt hs) (fun f => by have := hf f; simp only [List.map_cons, List.map_nil, List.sum_cons, List.sum_nil]; omega)
  simpa using h
theorem d5_0 : decode method_3_code 0 = .ok (.aload_n 0, 1) := by decide +kernel
theorem d5_1 : decode method_3_code 1 = .ok (.lload_n 1, 1) := by decide +kernel
theorem d5_2 : decode method_3_code 2 = .ok (.bipush 32, 2) := by decide +kernel
theorem d5_4 : decode method_3_code 4 = .ok (.lshr, 1) := by decide +kernel
theorem d5_5 : decode method_3_code 5 = .ok (.lload_n 1, 1) := by decide +kernel
theorem d5_6 : decode method_3_code 6 = .ok (.ldc2_w 7, 3) := by decide +kernel
theorem d5_9 : decode method_3_code 9 = .ok (.land, 1) := by decide +kernel
theorem d5_10 : decode method_3_code 10 = .ok (.l2i, 1) := by decide +kernel
theorem d5_11 : decode method_3_code 11 = .ok (.invokevirtual 9, 3) := by decide +kernel
theorem d5_14 : decode method_3_code 14 = .ok (.return_, 1) := by decide +kernel
theorem ef_5 (m : MethodId) (ob : Addr) (x1 : Int64) : entryFrame m #[(.ref ob), (.long x1)] 3 = mkF m 0 #[.val (.ref ob), .val (.long x1), .second] [] := by first | (simp [entryFrame, mkF, argsToLocals, Value.category]; done) | rfl
set_option maxRecDepth 65536 in
set_option maxHeartbeats 40000000 in
theorem rm5_0 (l : Launch) (Z : State) (a0 : Array Value) (hw : ∀ d ∈ tables_1, d.before a0 Z = true) (ob : Addr) (x1 : Int64) (h0 : Heap) (n0 : Nat) (Z0 : n0 ≤ h0.size) (hp : Addr)  (rest : List Int64) (E_ob : Exa Z h0 ob "com/example/facet/facet/regex/MinQueue") (g_ob : n0 ≤ ob) (g_hp : n0 ≤ hp) (F_heap : Fld Z h0 ob "com/example/facet/facet/regex/MinQueue" "heap" "[J" (.ref hp)) (F_size : Fld Z h0 ob "com/example/facet/facet/regex/MinQueue" "size" "I" (.int (0 : Int32))) (V_hp : AJ Z h0 hp (rest)) (nho : hp ≠ ob) (hO : True) (hrl : rest.length ≤ 8) (hr1 : 1 ≤ rest.length) :
    Con l Z (⟨"com/example/facet/facet/regex/MinQueuePollPinLaw", "add", "(Lcom/example/facet/facet/regex/MinQueue;J)V"⟩ : MethodName) method_3_code 3 none ({ frames := 3, cells := 1, slots := 8, locals := 96 } : Room) #[(.ref ob), (.long x1)] h0 (fun v h L => v = none ∧ Fr n0 L ∧ Keep h0 h [ob, hp] ∧ ∃ (b : Addr) (k0 : Int64) (rs : List Int64), Fld Z h ob "com/example/facet/facet/regex/MinQueue" "heap" "[J" (.ref b) ∧ Fld Z h ob "com/example/facet/facet/regex/MinQueue" "size" "I" (.int (1 : Int32)) ∧ AJ Z h b (k0 :: rs) ∧ rs.length ≤ 7 ∧ (True) ∧ (∀ f : Int64 → Nat, f k0 = f (x1 &&& (-2147483649 : Int64))) ∧ b ≠ ob ∧ (b = hp ∨ h0.size ≤ b)) := by
  refine Con.of (plainFor_of_name (by first | (simp [plainName, overriddenIn]; done) | decide +kernel)) ?_
  intro p e s m below meth c T X hx hZ hby hml hown hnm hret hlk e0
  rw [ef_5]
  have N0 := Fr.nil n0
  have KP0 := Keep.refl h0 [ob, hp]
  show Go p e below s 1 8 (fun v h L => v = none ∧ Fr n0 L ∧ Keep h0 h [ob, hp] ∧ ∃ (b : Addr) (k0 : Int64) (rs : List Int64), Fld Z h ob "com/example/facet/facet/regex/MinQueue" "heap" "[J" (.ref b) ∧ Fld Z h ob "com/example/facet/facet/regex/MinQueue" "size" "I" (.int (1 : Int32)) ∧ AJ Z h b (k0 :: rs) ∧ rs.length ≤ 7 ∧ (True) ∧ (∀ f : Int64 → Nat, f k0 = f (x1 &&& (-2147483649 : Int64))) ∧ b ≠ ob ∧ (b = hp ∨ h0.size ≤ b)) T (mkF m 0 #[.val (.ref ob), .val (.long x1), .second] [])
  refine w_aloadN X hx (hb hby d5_0) (pc' := 1) rfl rfl rfl ?_
  refine w_lloadN X hx (hb hby d5_1) (pc' := 2) rfl rfl ?_
  refine w_bipush (v := 32) X hx (hb hby d5_2) (pc' := 4) rfl rfl ?_
  refine w_lshr X hx (hb hby d5_4) (pc' := 5) rfl ?_
  refine w_lloadN X hx (hb hby d5_5) (pc' := 6) rfl rfl ?_
  refine w_ldc2 X hx hZ hown (hw _ (List.mem_of_getElem? (i := 24) rfl)) (hb hby d5_6) (pc' := 9) rfl ?_
  refine w_land X hx (hb hby d5_9) (pc' := 10) rfl ?_
  refine w_l2i X hx (hb hby d5_10) (pc' := 11) rfl ?_
  refine w_callV (argsL := [(.long (x1 >>> ((32 : Int32) &&& 0x3f).toInt64)), (.int (x1 &&& (2147483647 : Int64)).toInt32)]) (rest := []) (a := ob) X hx hZ hown e0 E_ob (rm6_0 l Z a0 hw ob (x1 >>> ((32 : Int32) &&& 0x3f).toInt64) (x1 &&& (2147483647 : Int64)).toInt32 h0 n0 Z0 hp (x1 &&& (-2147483649 : Int64))  rest E_ob g_ob g_hp F_heap F_size V_hp nho trivial (own_ent x1) hrl hr1) (hw _ (List.mem_of_getElem? (i := 25) rfl)) (hw _ (List.mem_of_getElem? (i := 26) rfl)) (hw _ (List.mem_of_getElem? (i := 28) rfl)) (hw _ (List.mem_of_getElem? (i := 27) rfl)) (hw _ (List.mem_of_getElem? (i := 8) rfl)) (hw _ (List.mem_of_getElem? (i := 29) rfl)) (by decide) (by decide) (W := 0) (by decide) (by decide) (by decide) (by rw [hml]; rfl) (lenOf pd_2 rfl) (Nat.le_refl _) rfl (hb hby d5_11) (pc' := 14) rfl (fun T319 L319 v319 X319 hQ319 => ?_)
  obtain ⟨rfl, N319q, K319, b319, k0_319, rs319, Fh319, Fs319, V319, rl319, od319, sm319, nb319, hb319⟩ := hQ319
  have zn319 : n0 ≤ T319.heap.size := Nat.le_trans Z0 K319.1
  have KP319 := KP0.trans K319 (allS (Or.inl (by simp)) (allS (Or.inl (by simp)) all0))
  have N319 := Fr.app N0 N319q
  have X319 : Stand p l e ({ frames := 3, cells := 1, slots := 8, locals := 96 } : Room) s m _ below meth c T319 _ 1 8 := X319
  have g_b319 : n0 ≤ b319 := hb319.elim (fun q => by rw [q]; exact g_hp) (fun q => Nat.le_trans Z0 q)
  show Go p e below s 1 8 (fun v h L => v = none ∧ Fr n0 L ∧ Keep h0 h [ob, hp] ∧ ∃ (b : Addr) (k0 : Int64) (rs : List Int64), Fld Z h ob "com/example/facet/facet/regex/MinQueue" "heap" "[J" (.ref b) ∧ Fld Z h ob "com/example/facet/facet/regex/MinQueue" "size" "I" (.int (1 : Int32)) ∧ AJ Z h b (k0 :: rs) ∧ rs.length ≤ 7 ∧ (True) ∧ (∀ f : Int64 → Nat, f k0 = f (x1 &&& (-2147483649 : Int64))) ∧ b ≠ ob ∧ (b = hp ∨ h0.size ≤ b)) T319 (mkF m 14 #[.val (.ref ob), .val (.long x1), .second] [])
  exact w_retV X319 hx hret hlk (hb hby d5_14) (by decide) (by decide) (by exact ⟨rfl, N319, KP319, b319, k0_319, rs319, Fh319, Fs319, V319, rl319, od319, sm319, nb319, hb319⟩)
set_option maxRecDepth 65536 in
set_option maxHeartbeats 40000000 in
theorem rm5_1 (l : Launch) (Z : State) (a0 : Array Value) (hw : ∀ d ∈ tables_1, d.before a0 Z = true) (ob : Addr) (x1 : Int64) (h0 : Heap) (n0 : Nat) (Z0 : n0 ≤ h0.size) (hp : Addr) (y0 : Int64) (rest : List Int64) (E_ob : Exa Z h0 ob "com/example/facet/facet/regex/MinQueue") (g_ob : n0 ≤ ob) (g_hp : n0 ≤ hp) (F_heap : Fld Z h0 ob "com/example/facet/facet/regex/MinQueue" "heap" "[J" (.ref hp)) (F_size : Fld Z h0 ob "com/example/facet/facet/regex/MinQueue" "size" "I" (.int (1 : Int32))) (V_hp : AJ Z h0 hp (y0 :: rest)) (nho : hp ≠ ob) (hO : True) (hrl : rest.length ≤ 7) :
    Con l Z (⟨"com/example/facet/facet/regex/MinQueuePollPinLaw", "add", "(Lcom/example/facet/facet/regex/MinQueue;J)V"⟩ : MethodName) method_3_code 3 none ({ frames := 3, cells := 1, slots := 8, locals := 96 } : Room) #[(.ref ob), (.long x1)] h0 (fun v h L => v = none ∧ Fr n0 L ∧ Keep h0 h [ob, hp] ∧ ∃ (b : Addr) (k0 k1 : Int64) (rs : List Int64), Fld Z h ob "com/example/facet/facet/regex/MinQueue" "heap" "[J" (.ref b) ∧ Fld Z h ob "com/example/facet/facet/regex/MinQueue" "size" "I" (.int (2 : Int32)) ∧ AJ Z h b (k0 :: k1 :: rs) ∧ rs.length ≤ 6 ∧ (k0.toInt ≤ k1.toInt) ∧ (∀ f : Int64 → Nat, f k0 + f k1 = f y0 + f (x1 &&& (-2147483649 : Int64))) ∧ b ≠ ob ∧ (b = hp ∨ h0.size ≤ b)) := by
  refine Con.of (plainFor_of_name (by first | (simp [plainName, overriddenIn]; done) | decide +kernel)) ?_
  intro p e s m below meth c T X hx hZ hby hml hown hnm hret hlk e0
  rw [ef_5]
  have N0 := Fr.nil n0
  have KP0 := Keep.refl h0 [ob, hp]
  show Go p e below s 1 8 (fun v h L => v = none ∧ Fr n0 L ∧ Keep h0 h [ob, hp] ∧ ∃ (b : Addr) (k0 k1 : Int64) (rs : List Int64), Fld Z h ob "com/example/facet/facet/regex/MinQueue" "heap" "[J" (.ref b) ∧ Fld Z h ob "com/example/facet/facet/regex/MinQueue" "size" "I" (.int (2 : Int32)) ∧ AJ Z h b (k0 :: k1 :: rs) ∧ rs.length ≤ 6 ∧ (k0.toInt ≤ k1.toInt) ∧ (∀ f : Int64 → Nat, f k0 + f k1 = f y0 + f (x1 &&& (-2147483649 : Int64))) ∧ b ≠ ob ∧ (b = hp ∨ h0.size ≤ b)) T (mkF m 0 #[.val (.ref ob), .val (.long x1), .second] [])
  refine w_aloadN X hx (hb hby d5_0) (pc' := 1) rfl rfl rfl ?_
  refine w_lloadN X hx (hb hby d5_1) (pc' := 2) rfl rfl ?_
  refine w_bipush (v := 32) X hx (hb hby d5_2) (pc' := 4) rfl rfl ?_
  refine w_lshr X hx (hb hby d5_4) (pc' := 5) rfl ?_
  refine w_lloadN X hx (hb hby d5_5) (pc' := 6) rfl rfl ?_
  refine w_ldc2 X hx hZ hown (hw _ (List.mem_of_getElem? (i := 24) rfl)) (hb hby d5_6) (pc' := 9) rfl ?_
  refine w_land X hx (hb hby d5_9) (pc' := 10) rfl ?_
  refine w_l2i X hx (hb hby d5_10) (pc' := 11) rfl ?_
  refine w_callV (argsL := [(.long (x1 >>> ((32 : Int32) &&& 0x3f).toInt64)), (.int (x1 &&& (2147483647 : Int64)).toInt32)]) (rest := []) (a := ob) X hx hZ hown e0 E_ob (rm6_1 l Z a0 hw ob (x1 >>> ((32 : Int32) &&& 0x3f).toInt64) (x1 &&& (2147483647 : Int64)).toInt32 h0 n0 Z0 hp (x1 &&& (-2147483649 : Int64)) y0 rest E_ob g_ob g_hp F_heap F_size V_hp nho hO (own_ent x1) hrl ) (hw _ (List.mem_of_getElem? (i := 25) rfl)) (hw _ (List.mem_of_getElem? (i := 26) rfl)) (hw _ (List.mem_of_getElem? (i := 28) rfl)) (hw _ (List.mem_of_getElem? (i := 27) rfl)) (hw _ (List.mem_of_getElem? (i := 8) rfl)) (hw _ (List.mem_of_getElem? (i := 29) rfl)) (by decide) (by decide) (W := 0) (by decide) (by decide) (by decide) (by rw [hml]; rfl) (lenOf pd_2 rfl) (Nat.le_refl _) rfl (hb hby d5_11) (pc' := 14) rfl (fun T320 L320 v320 X320 hQ320 => ?_)
  obtain ⟨rfl, N320q, K320, b320, k0_320, k1_320, rs320, Fh320, Fs320, V320, rl320, od320, sm320, nb320, hb320⟩ := hQ320
  have zn320 : n0 ≤ T320.heap.size := Nat.le_trans Z0 K320.1
  have KP320 := KP0.trans K320 (allS (Or.inl (by simp)) (allS (Or.inl (by simp)) all0))
  have N320 := Fr.app N0 N320q
  have X320 : Stand p l e ({ frames := 3, cells := 1, slots := 8, locals := 96 } : Room) s m _ below meth c T320 _ 1 8 := X320
  have g_b320 : n0 ≤ b320 := hb320.elim (fun q => by rw [q]; exact g_hp) (fun q => Nat.le_trans Z0 q)
  show Go p e below s 1 8 (fun v h L => v = none ∧ Fr n0 L ∧ Keep h0 h [ob, hp] ∧ ∃ (b : Addr) (k0 k1 : Int64) (rs : List Int64), Fld Z h ob "com/example/facet/facet/regex/MinQueue" "heap" "[J" (.ref b) ∧ Fld Z h ob "com/example/facet/facet/regex/MinQueue" "size" "I" (.int (2 : Int32)) ∧ AJ Z h b (k0 :: k1 :: rs) ∧ rs.length ≤ 6 ∧ (k0.toInt ≤ k1.toInt) ∧ (∀ f : Int64 → Nat, f k0 + f k1 = f y0 + f (x1 &&& (-2147483649 : Int64))) ∧ b ≠ ob ∧ (b = hp ∨ h0.size ≤ b)) T320 (mkF m 14 #[.val (.ref ob), .val (.long x1), .second] [])
  exact w_retV X320 hx hret hlk (hb hby d5_14) (by decide) (by decide) (by exact ⟨rfl, N320, KP320, b320, k0_320, k1_320, rs320, Fh320, Fs320, V320, rl320, od320, sm320, nb320, hb320⟩)
set_option maxRecDepth 65536 in
set_option maxHeartbeats 40000000 in
theorem rm5_2 (l : Launch) (Z : State) (a0 : Array Value) (hw : ∀ d ∈ tables_1, d.before a0 Z = true) (ob : Addr) (x1 : Int64) (h0 : Heap) (n0 : Nat) (Z0 : n0 ≤ h0.size) (hp : Addr) (y0 : Int64) (y1 : Int64) (rest : List Int64) (E_ob : Exa Z h0 ob "com/example/facet/facet/regex/MinQueue") (g_ob : n0 ≤ ob) (g_hp : n0 ≤ hp) (F_heap : Fld Z h0 ob "com/example/facet/facet/regex/MinQueue" "heap" "[J" (.ref hp)) (F_size : Fld Z h0 ob "com/example/facet/facet/regex/MinQueue" "size" "I" (.int (2 : Int32))) (V_hp : AJ Z h0 hp (y0 :: y1 :: rest)) (nho : hp ≠ ob) (hO : y0.toInt ≤ y1.toInt) (hrl : rest.length ≤ 6) :
    Con l Z (⟨"com/example/facet/facet/regex/MinQueuePollPinLaw", "add", "(Lcom/example/facet/facet/regex/MinQueue;J)V"⟩ : MethodName) method_3_code 3 none ({ frames := 3, cells := 1, slots := 8, locals := 96 } : Room) #[(.ref ob), (.long x1)] h0 (fun v h L => v = none ∧ Fr n0 L ∧ Keep h0 h [ob, hp] ∧ ∃ (b : Addr) (k0 k1 k2 : Int64) (rs : List Int64), Fld Z h ob "com/example/facet/facet/regex/MinQueue" "heap" "[J" (.ref b) ∧ Fld Z h ob "com/example/facet/facet/regex/MinQueue" "size" "I" (.int (3 : Int32)) ∧ AJ Z h b (k0 :: k1 :: k2 :: rs) ∧ rs.length ≤ 5 ∧ (k0.toInt ≤ k1.toInt ∧ k0.toInt ≤ k2.toInt) ∧ (∀ f : Int64 → Nat, f k0 + f k1 + f k2 = f y0 + f y1 + f (x1 &&& (-2147483649 : Int64))) ∧ b ≠ ob ∧ (b = hp ∨ h0.size ≤ b)) := by
  refine Con.of (plainFor_of_name (by first | (simp [plainName, overriddenIn]; done) | decide +kernel)) ?_
  intro p e s m below meth c T X hx hZ hby hml hown hnm hret hlk e0
  rw [ef_5]
  have N0 := Fr.nil n0
  have KP0 := Keep.refl h0 [ob, hp]
  show Go p e below s 1 8 (fun v h L => v = none ∧ Fr n0 L ∧ Keep h0 h [ob, hp] ∧ ∃ (b : Addr) (k0 k1 k2 : Int64) (rs : List Int64), Fld Z h ob "com/example/facet/facet/regex/MinQueue" "heap" "[J" (.ref b) ∧ Fld Z h ob "com/example/facet/facet/regex/MinQueue" "size" "I" (.int (3 : Int32)) ∧ AJ Z h b (k0 :: k1 :: k2 :: rs) ∧ rs.length ≤ 5 ∧ (k0.toInt ≤ k1.toInt ∧ k0.toInt ≤ k2.toInt) ∧ (∀ f : Int64 → Nat, f k0 + f k1 + f k2 = f y0 + f y1 + f (x1 &&& (-2147483649 : Int64))) ∧ b ≠ ob ∧ (b = hp ∨ h0.size ≤ b)) T (mkF m 0 #[.val (.ref ob), .val (.long x1), .second] [])
  refine w_aloadN X hx (hb hby d5_0) (pc' := 1) rfl rfl rfl ?_
  refine w_lloadN X hx (hb hby d5_1) (pc' := 2) rfl rfl ?_
  refine w_bipush (v := 32) X hx (hb hby d5_2) (pc' := 4) rfl rfl ?_
  refine w_lshr X hx (hb hby d5_4) (pc' := 5) rfl ?_
  refine w_lloadN X hx (hb hby d5_5) (pc' := 6) rfl rfl ?_
  refine w_ldc2 X hx hZ hown (hw _ (List.mem_of_getElem? (i := 24) rfl)) (hb hby d5_6) (pc' := 9) rfl ?_
  refine w_land X hx (hb hby d5_9) (pc' := 10) rfl ?_
  refine w_l2i X hx (hb hby d5_10) (pc' := 11) rfl ?_
  refine w_callV (argsL := [(.long (x1 >>> ((32 : Int32) &&& 0x3f).toInt64)), (.int (x1 &&& (2147483647 : Int64)).toInt32)]) (rest := []) (a := ob) X hx hZ hown e0 E_ob (rm6_2 l Z a0 hw ob (x1 >>> ((32 : Int32) &&& 0x3f).toInt64) (x1 &&& (2147483647 : Int64)).toInt32 h0 n0 Z0 hp (x1 &&& (-2147483649 : Int64)) y0 y1 rest E_ob g_ob g_hp F_heap F_size V_hp nho hO (own_ent x1) hrl ) (hw _ (List.mem_of_getElem? (i := 25) rfl)) (hw _ (List.mem_of_getElem? (i := 26) rfl)) (hw _ (List.mem_of_getElem? (i := 28) rfl)) (hw _ (List.mem_of_getElem? (i := 27) rfl)) (hw _ (List.mem_of_getElem? (i := 8) rfl)) (hw _ (List.mem_of_getElem? (i := 29) rfl)) (by decide) (by decide) (W := 0) (by decide) (by decide) (by decide) (by rw [hml]; rfl) (lenOf pd_2 rfl) (Nat.le_refl _) rfl (hb hby d5_11) (pc' := 14) rfl (fun T321 L321 v321 X321 hQ321 => ?_)
  obtain ⟨rfl, N321q, K321, b321, k0_321, k1_321, k2_321, rs321, Fh321, Fs321, V321, rl321, od321, sm321, nb321, hb321⟩ := hQ321
  have zn321 : n0 ≤ T321.heap.size := Nat.le_trans Z0 K321.1
  have KP321 := KP0.trans K321 (allS (Or.inl (by simp)) (allS (Or.inl (by simp)) all0))
  have N321 := Fr.app N0 N321q
  have X321 : Stand p l e ({ frames := 3, cells := 1, slots := 8, locals := 96 } : Room) s m _ below meth c T321 _ 1 8 := X321
  have g_b321 : n0 ≤ b321 := hb321.elim (fun q => by rw [q]; exact g_hp) (fun q => Nat.le_trans Z0 q)
  show Go p e below s 1 8 (fun v h L => v = none ∧ Fr n0 L ∧ Keep h0 h [ob, hp] ∧ ∃ (b : Addr) (k0 k1 k2 : Int64) (rs : List Int64), Fld Z h ob "com/example/facet/facet/regex/MinQueue" "heap" "[J" (.ref b) ∧ Fld Z h ob "com/example/facet/facet/regex/MinQueue" "size" "I" (.int (3 : Int32)) ∧ AJ Z h b (k0 :: k1 :: k2 :: rs) ∧ rs.length ≤ 5 ∧ (k0.toInt ≤ k1.toInt ∧ k0.toInt ≤ k2.toInt) ∧ (∀ f : Int64 → Nat, f k0 + f k1 + f k2 = f y0 + f y1 + f (x1 &&& (-2147483649 : Int64))) ∧ b ≠ ob ∧ (b = hp ∨ h0.size ≤ b)) T321 (mkF m 14 #[.val (.ref ob), .val (.long x1), .second] [])
  exact w_retV X321 hx hret hlk (hb hby d5_14) (by decide) (by decide) (by exact ⟨rfl, N321, KP321, b321, k0_321, k1_321, k2_321, rs321, Fh321, Fs321, V321, rl321, od321, sm321, nb321, hb321⟩)
set_option maxRecDepth 65536 in
set_option maxHeartbeats 40000000 in
theorem rm5_3 (l : Launch) (Z : State) (a0 : Array Value) (hw : ∀ d ∈ tables_1, d.before a0 Z = true) (ob : Addr) (x1 : Int64) (h0 : Heap) (n0 : Nat) (Z0 : n0 ≤ h0.size) (hp : Addr) (y0 : Int64) (y1 : Int64) (y2 : Int64) (rest : List Int64) (E_ob : Exa Z h0 ob "com/example/facet/facet/regex/MinQueue") (g_ob : n0 ≤ ob) (g_hp : n0 ≤ hp) (F_heap : Fld Z h0 ob "com/example/facet/facet/regex/MinQueue" "heap" "[J" (.ref hp)) (F_size : Fld Z h0 ob "com/example/facet/facet/regex/MinQueue" "size" "I" (.int (3 : Int32))) (V_hp : AJ Z h0 hp (y0 :: y1 :: y2 :: rest)) (nho : hp ≠ ob) (hO : y0.toInt ≤ y1.toInt ∧ y0.toInt ≤ y2.toInt) (hrl : rest.length ≤ 5) :
    Con l Z (⟨"com/example/facet/facet/regex/MinQueuePollPinLaw", "add", "(Lcom/example/facet/facet/regex/MinQueue;J)V"⟩ : MethodName) method_3_code 3 none ({ frames := 3, cells := 1, slots := 8, locals := 96 } : Room) #[(.ref ob), (.long x1)] h0 (fun v h L => v = none ∧ Fr n0 L ∧ Keep h0 h [ob, hp] ∧ ∃ (b : Addr) (k0 k1 k2 k3 : Int64) (rs : List Int64), Fld Z h ob "com/example/facet/facet/regex/MinQueue" "heap" "[J" (.ref b) ∧ Fld Z h ob "com/example/facet/facet/regex/MinQueue" "size" "I" (.int (4 : Int32)) ∧ AJ Z h b (k0 :: k1 :: k2 :: k3 :: rs) ∧ rs.length ≤ 4 ∧ (k0.toInt ≤ k1.toInt ∧ k0.toInt ≤ k2.toInt ∧ k1.toInt ≤ k3.toInt) ∧ (∀ f : Int64 → Nat, f k0 + f k1 + f k2 + f k3 = f y0 + f y1 + f y2 + f (x1 &&& (-2147483649 : Int64))) ∧ b ≠ ob ∧ (b = hp ∨ h0.size ≤ b)) := by
  refine Con.of (plainFor_of_name (by first | (simp [plainName, overriddenIn]; done) | decide +kernel)) ?_
  intro p e s m below meth c T X hx hZ hby hml hown hnm hret hlk e0
  rw [ef_5]
  have N0 := Fr.nil n0
  have KP0 := Keep.refl h0 [ob, hp]
  show Go p e below s 1 8 (fun v h L => v = none ∧ Fr n0 L ∧ Keep h0 h [ob, hp] ∧ ∃ (b : Addr) (k0 k1 k2 k3 : Int64) (rs : List Int64), Fld Z h ob "com/example/facet/facet/regex/MinQueue" "heap" "[J" (.ref b) ∧ Fld Z h ob "com/example/facet/facet/regex/MinQueue" "size" "I" (.int (4 : Int32)) ∧ AJ Z h b (k0 :: k1 :: k2 :: k3 :: rs) ∧ rs.length ≤ 4 ∧ (k0.toInt ≤ k1.toInt ∧ k0.toInt ≤ k2.toInt ∧ k1.toInt ≤ k3.toInt) ∧ (∀ f : Int64 → Nat, f k0 + f k1 + f k2 + f k3 = f y0 + f y1 + f y2 + f (x1 &&& (-2147483649 : Int64))) ∧ b ≠ ob ∧ (b = hp ∨ h0.size ≤ b)) T (mkF m 0 #[.val (.ref ob), .val (.long x1), .second] [])
  refine w_aloadN X hx (hb hby d5_0) (pc' := 1) rfl rfl rfl ?_
  refine w_lloadN X hx (hb hby d5_1) (pc' := 2) rfl rfl ?_
  refine w_bipush (v := 32) X hx (hb hby d5_2) (pc' := 4) rfl rfl ?_
  refine w_lshr X hx (hb hby d5_4) (pc' := 5) rfl ?_
  refine w_lloadN X hx (hb hby d5_5) (pc' := 6) rfl rfl ?_
  refine w_ldc2 X hx hZ hown (hw _ (List.mem_of_getElem? (i := 24) rfl)) (hb hby d5_6) (pc' := 9) rfl ?_
  refine w_land X hx (hb hby d5_9) (pc' := 10) rfl ?_
  refine w_l2i X hx (hb hby d5_10) (pc' := 11) rfl ?_
  refine w_callV (argsL := [(.long (x1 >>> ((32 : Int32) &&& 0x3f).toInt64)), (.int (x1 &&& (2147483647 : Int64)).toInt32)]) (rest := []) (a := ob) X hx hZ hown e0 E_ob (rm6_3 l Z a0 hw ob (x1 >>> ((32 : Int32) &&& 0x3f).toInt64) (x1 &&& (2147483647 : Int64)).toInt32 h0 n0 Z0 hp (x1 &&& (-2147483649 : Int64)) y0 y1 y2 rest E_ob g_ob g_hp F_heap F_size V_hp nho hO (own_ent x1) hrl ) (hw _ (List.mem_of_getElem? (i := 25) rfl)) (hw _ (List.mem_of_getElem? (i := 26) rfl)) (hw _ (List.mem_of_getElem? (i := 28) rfl)) (hw _ (List.mem_of_getElem? (i := 27) rfl)) (hw _ (List.mem_of_getElem? (i := 8) rfl)) (hw _ (List.mem_of_getElem? (i := 29) rfl)) (by decide) (by decide) (W := 0) (by decide) (by decide) (by decide) (by rw [hml]; rfl) (lenOf pd_2 rfl) (Nat.le_refl _) rfl (hb hby d5_11) (pc' := 14) rfl (fun T322 L322 v322 X322 hQ322 => ?_)
  obtain ⟨rfl, N322q, K322, b322, k0_322, k1_322, k2_322, k3_322, rs322, Fh322, Fs322, V322, rl322, od322, sm322, nb322, hb322⟩ := hQ322
  have zn322 : n0 ≤ T322.heap.size := Nat.le_trans Z0 K322.1
  have KP322 := KP0.trans K322 (allS (Or.inl (by simp)) (allS (Or.inl (by simp)) all0))
  have N322 := Fr.app N0 N322q
  have X322 : Stand p l e ({ frames := 3, cells := 1, slots := 8, locals := 96 } : Room) s m _ below meth c T322 _ 1 8 := X322
  have g_b322 : n0 ≤ b322 := hb322.elim (fun q => by rw [q]; exact g_hp) (fun q => Nat.le_trans Z0 q)
  show Go p e below s 1 8 (fun v h L => v = none ∧ Fr n0 L ∧ Keep h0 h [ob, hp] ∧ ∃ (b : Addr) (k0 k1 k2 k3 : Int64) (rs : List Int64), Fld Z h ob "com/example/facet/facet/regex/MinQueue" "heap" "[J" (.ref b) ∧ Fld Z h ob "com/example/facet/facet/regex/MinQueue" "size" "I" (.int (4 : Int32)) ∧ AJ Z h b (k0 :: k1 :: k2 :: k3 :: rs) ∧ rs.length ≤ 4 ∧ (k0.toInt ≤ k1.toInt ∧ k0.toInt ≤ k2.toInt ∧ k1.toInt ≤ k3.toInt) ∧ (∀ f : Int64 → Nat, f k0 + f k1 + f k2 + f k3 = f y0 + f y1 + f y2 + f (x1 &&& (-2147483649 : Int64))) ∧ b ≠ ob ∧ (b = hp ∨ h0.size ≤ b)) T322 (mkF m 14 #[.val (.ref ob), .val (.long x1), .second] [])
  exact w_retV X322 hx hret hlk (hb hby d5_14) (by decide) (by decide) (by exact ⟨rfl, N322, KP322, b322, k0_322, k1_322, k2_322, k3_322, rs322, Fh322, Fs322, V322, rl322, od322, sm322, nb322, hb322⟩)
set_option maxRecDepth 65536 in
set_option maxHeartbeats 40000000 in
theorem rm5_4 (l : Launch) (Z : State) (a0 : Array Value) (hw : ∀ d ∈ tables_1, d.before a0 Z = true) (ob : Addr) (x1 : Int64) (h0 : Heap) (n0 : Nat) (Z0 : n0 ≤ h0.size) (hp : Addr) (y0 : Int64) (y1 : Int64) (y2 : Int64) (y3 : Int64) (rest : List Int64) (E_ob : Exa Z h0 ob "com/example/facet/facet/regex/MinQueue") (g_ob : n0 ≤ ob) (g_hp : n0 ≤ hp) (F_heap : Fld Z h0 ob "com/example/facet/facet/regex/MinQueue" "heap" "[J" (.ref hp)) (F_size : Fld Z h0 ob "com/example/facet/facet/regex/MinQueue" "size" "I" (.int (4 : Int32))) (V_hp : AJ Z h0 hp (y0 :: y1 :: y2 :: y3 :: rest)) (nho : hp ≠ ob) (hO : y0.toInt ≤ y1.toInt ∧ y0.toInt ≤ y2.toInt ∧ y1.toInt ≤ y3.toInt) (hrl : rest.length ≤ 4) :
    Con l Z (⟨"com/example/facet/facet/regex/MinQueuePollPinLaw", "add", "(Lcom/example/facet/facet/regex/MinQueue;J)V"⟩ : MethodName) method_3_code 3 none ({ frames := 3, cells := 1, slots := 8, locals := 96 } : Room) #[(.ref ob), (.long x1)] h0 (fun v h L => v = none ∧ Fr n0 L ∧ Keep h0 h [ob, hp] ∧ ∃ (b : Addr) (k0 k1 k2 k3 k4 : Int64) (rs : List Int64), Fld Z h ob "com/example/facet/facet/regex/MinQueue" "heap" "[J" (.ref b) ∧ Fld Z h ob "com/example/facet/facet/regex/MinQueue" "size" "I" (.int (5 : Int32)) ∧ AJ Z h b (k0 :: k1 :: k2 :: k3 :: k4 :: rs) ∧ rs.length ≤ 3 ∧ (k0.toInt ≤ k1.toInt ∧ k0.toInt ≤ k2.toInt ∧ k1.toInt ≤ k3.toInt ∧ k1.toInt ≤ k4.toInt) ∧ (∀ f : Int64 → Nat, f k0 + f k1 + f k2 + f k3 + f k4 = f y0 + f y1 + f y2 + f y3 + f (x1 &&& (-2147483649 : Int64))) ∧ b ≠ ob ∧ (b = hp ∨ h0.size ≤ b)) := by
  refine Con.of (plainFor_of_name (by first | (simp [plainName, overriddenIn]; done) | decide +kernel)) ?_
  intro p e s m below meth c T X hx hZ hby hml hown hnm hret hlk e0
  rw [ef_5]
  have N0 := Fr.nil n0
  have KP0 := Keep.refl h0 [ob, hp]
  show Go p e below s 1 8 (fun v h L => v = none ∧ Fr n0 L ∧ Keep h0 h [ob, hp] ∧ ∃ (b : Addr) (k0 k1 k2 k3 k4 : Int64) (rs : List Int64), Fld Z h ob "com/example/facet/facet/regex/MinQueue" "heap" "[J" (.ref b) ∧ Fld Z h ob "com/example/facet/facet/regex/MinQueue" "size" "I" (.int (5 : Int32)) ∧ AJ Z h b (k0 :: k1 :: k2 :: k3 :: k4 :: rs) ∧ rs.length ≤ 3 ∧ (k0.toInt ≤ k1.toInt ∧ k0.toInt ≤ k2.toInt ∧ k1.toInt ≤ k3.toInt ∧ k1.toInt ≤ k4.toInt) ∧ (∀ f : Int64 → Nat, f k0 + f k1 + f k2 + f k3 + f k4 = f y0 + f y1 + f y2 + f y3 + f (x1 &&& (-2147483649 : Int64))) ∧ b ≠ ob ∧ (b = hp ∨ h0.size ≤ b)) T (mkF m 0 #[.val (.ref ob), .val (.long x1), .second] [])
  refine w_aloadN X hx (hb hby d5_0) (pc' := 1) rfl rfl rfl ?_
  refine w_lloadN X hx (hb hby d5_1) (pc' := 2) rfl rfl ?_
  refine w_bipush (v := 32) X hx (hb hby d5_2) (pc' := 4) rfl rfl ?_
  refine w_lshr X hx (hb hby d5_4) (pc' := 5) rfl ?_
  refine w_lloadN X hx (hb hby d5_5) (pc' := 6) rfl rfl ?_
  refine w_ldc2 X hx hZ hown (hw _ (List.mem_of_getElem? (i := 24) rfl)) (hb hby d5_6) (pc' := 9) rfl ?_
  refine w_land X hx (hb hby d5_9) (pc' := 10) rfl ?_
  refine w_l2i X hx (hb hby d5_10) (pc' := 11) rfl ?_
  refine w_callV (argsL := [(.long (x1 >>> ((32 : Int32) &&& 0x3f).toInt64)), (.int (x1 &&& (2147483647 : Int64)).toInt32)]) (rest := []) (a := ob) X hx hZ hown e0 E_ob (rm6_4 l Z a0 hw ob (x1 >>> ((32 : Int32) &&& 0x3f).toInt64) (x1 &&& (2147483647 : Int64)).toInt32 h0 n0 Z0 hp (x1 &&& (-2147483649 : Int64)) y0 y1 y2 y3 rest E_ob g_ob g_hp F_heap F_size V_hp nho hO (own_ent x1) hrl ) (hw _ (List.mem_of_getElem? (i := 25) rfl)) (hw _ (List.mem_of_getElem? (i := 26) rfl)) (hw _ (List.mem_of_getElem? (i := 28) rfl)) (hw _ (List.mem_of_getElem? (i := 27) rfl)) (hw _ (List.mem_of_getElem? (i := 8) rfl)) (hw _ (List.mem_of_getElem? (i := 29) rfl)) (by decide) (by decide) (W := 0) (by decide) (by decide) (by decide) (by rw [hml]; rfl) (lenOf pd_2 rfl) (Nat.le_refl _) rfl (hb hby d5_11) (pc' := 14) rfl (fun T323 L323 v323 X323 hQ323 => ?_)
  obtain ⟨rfl, N323q, K323, b323, k0_323, k1_323, k2_323, k3_323, k4_323, rs323, Fh323, Fs323, V323, rl323, od323, sm323, nb323, hb323⟩ := hQ323
  have zn323 : n0 ≤ T323.heap.size := Nat.le_trans Z0 K323.1
  have KP323 := KP0.trans K323 (allS (Or.inl (by simp)) (allS (Or.inl (by simp)) all0))
  have N323 := Fr.app N0 N323q
  have X323 : Stand p l e ({ frames := 3, cells := 1, slots := 8, locals := 96 } : Room) s m _ below meth c T323 _ 1 8 := X323
  have g_b323 : n0 ≤ b323 := hb323.elim (fun q => by rw [q]; exact g_hp) (fun q => Nat.le_trans Z0 q)
  show Go p e below s 1 8 (fun v h L => v = none ∧ Fr n0 L ∧ Keep h0 h [ob, hp] ∧ ∃ (b : Addr) (k0 k1 k2 k3 k4 : Int64) (rs : List Int64), Fld Z h ob "com/example/facet/facet/regex/MinQueue" "heap" "[J" (.ref b) ∧ Fld Z h ob "com/example/facet/facet/regex/MinQueue" "size" "I" (.int (5 : Int32)) ∧ AJ Z h b (k0 :: k1 :: k2 :: k3 :: k4 :: rs) ∧ rs.length ≤ 3 ∧ (k0.toInt ≤ k1.toInt ∧ k0.toInt ≤ k2.toInt ∧ k1.toInt ≤ k3.toInt ∧ k1.toInt ≤ k4.toInt) ∧ (∀ f : Int64 → Nat, f k0 + f k1 + f k2 + f k3 + f k4 = f y0 + f y1 + f y2 + f y3 + f (x1 &&& (-2147483649 : Int64))) ∧ b ≠ ob ∧ (b = hp ∨ h0.size ≤ b)) T323 (mkF m 14 #[.val (.ref ob), .val (.long x1), .second] [])
  exact w_retV X323 hx hret hlk (hb hby d5_14) (by decide) (by decide) (by exact ⟨rfl, N323, KP323, b323, k0_323, k1_323, k2_323, k3_323, k4_323, rs323, Fh323, Fs323, V323, rl323, od323, sm323, nb323, hb323⟩)
theorem d9_0 : decode prog_33_method_4_code 0 = .ok (.aload_n 0, 1) := by decide +kernel
theorem d9_1 : decode prog_33_method_4_code 1 = .ok (.getfield 13, 3) := by decide +kernel
theorem d9_4 : decode prog_33_method_4_code 4 = .ok (.iconst 0, 1) := by decide +kernel
theorem d9_5 : decode prog_33_method_4_code 5 = .ok (.laload, 1) := by decide +kernel
theorem d9_6 : decode prog_33_method_4_code 6 = .ok (.lstore_n 1, 1) := by decide +kernel
theorem d9_7 : decode prog_33_method_4_code 7 = .ok (.aload_n 0, 1) := by decide +kernel
theorem d9_8 : decode prog_33_method_4_code 8 = .ok (.dup, 1) := by decide +kernel
theorem d9_9 : decode prog_33_method_4_code 9 = .ok (.getfield 19, 3) := by decide +kernel
theorem d9_12 : decode prog_33_method_4_code 12 = .ok (.iconst 1, 1) := by decide +kernel
theorem d9_13 : decode prog_33_method_4_code 13 = .ok (.isub, 1) := by decide +kernel
theorem d9_14 : decode prog_33_method_4_code 14 = .ok (.putfield 19, 3) := by decide +kernel
theorem d9_17 : decode prog_33_method_4_code 17 = .ok (.aload_n 0, 1) := by decide +kernel
theorem d9_18 : decode prog_33_method_4_code 18 = .ok (.getfield 13, 3) := by decide +kernel
theorem d9_21 : decode prog_33_method_4_code 21 = .ok (.aload_n 0, 1) := by decide +kernel
theorem d9_22 : decode prog_33_method_4_code 22 = .ok (.getfield 19, 3) := by decide +kernel
theorem d9_25 : decode prog_33_method_4_code 25 = .ok (.laload, 1) := by decide +kernel
theorem d9_26 : decode prog_33_method_4_code 26 = .ok (.lstore_n 3, 1) := by decide +kernel
theorem d9_27 : decode prog_33_method_4_code 27 = .ok (.iconst 0, 1) := by decide +kernel
theorem d9_28 : decode prog_33_method_4_code 28 = .ok (.istore 5, 2) := by decide +kernel
theorem d9_30 : decode prog_33_method_4_code 30 = .ok (.iconst 2, 1) := by decide +kernel
theorem d9_31 : decode prog_33_method_4_code 31 = .ok (.iload 5, 2) := by decide +kernel
theorem d9_33 : decode prog_33_method_4_code 33 = .ok (.imul, 1) := by decide +kernel
theorem d9_34 : decode prog_33_method_4_code 34 = .ok (.iconst 1, 1) := by decide +kernel
theorem d9_35 : decode prog_33_method_4_code 35 = .ok (.iadd, 1) := by decide +kernel
theorem d9_36 : decode prog_33_method_4_code 36 = .ok (.aload_n 0, 1) := by decide +kernel
theorem d9_37 : decode prog_33_method_4_code 37 = .ok (.getfield 19, 3) := by decide +kernel
theorem d9_40 : decode prog_33_method_4_code 40 = .ok (.if_icmp .ge 81, 3) := by decide +kernel
theorem d9_43 : decode prog_33_method_4_code 43 = .ok (.iconst 2, 1) := by decide +kernel
theorem d9_44 : decode prog_33_method_4_code 44 = .ok (.iload 5, 2) := by decide +kernel
theorem d9_46 : decode prog_33_method_4_code 46 = .ok (.imul, 1) := by decide +kernel
theorem d9_47 : decode prog_33_method_4_code 47 = .ok (.iconst 1, 1) := by decide +kernel
theorem d9_48 : decode prog_33_method_4_code 48 = .ok (.iadd, 1) := by decide +kernel
theorem d9_49 : decode prog_33_method_4_code 49 = .ok (.istore 6, 2) := by decide +kernel
theorem d9_51 : decode prog_33_method_4_code 51 = .ok (.iload 6, 2) := by decide +kernel
theorem d9_53 : decode prog_33_method_4_code 53 = .ok (.iconst 1, 1) := by decide +kernel
theorem d9_54 : decode prog_33_method_4_code 54 = .ok (.iadd, 1) := by decide +kernel
theorem d9_55 : decode prog_33_method_4_code 55 = .ok (.aload_n 0, 1) := by decide +kernel
theorem d9_56 : decode prog_33_method_4_code 56 = .ok (.getfield 19, 3) := by decide +kernel
theorem d9_59 : decode prog_33_method_4_code 59 = .ok (.if_icmp .ge 26, 3) := by decide +kernel
theorem d9_62 : decode prog_33_method_4_code 62 = .ok (.aload_n 0, 1) := by decide +kernel
theorem d9_63 : decode prog_33_method_4_code 63 = .ok (.getfield 13, 3) := by decide +kernel
theorem d9_66 : decode prog_33_method_4_code 66 = .ok (.iload 6, 2) := by decide +kernel
theorem d9_68 : decode prog_33_method_4_code 68 = .ok (.iconst 1, 1) := by decide +kernel
theorem d9_69 : decode prog_33_method_4_code 69 = .ok (.iadd, 1) := by decide +kernel
theorem d9_70 : decode prog_33_method_4_code 70 = .ok (.laload, 1) := by decide +kernel
theorem d9_71 : decode prog_33_method_4_code 71 = .ok (.aload_n 0, 1) := by decide +kernel
theorem d9_72 : decode prog_33_method_4_code 72 = .ok (.getfield 13, 3) := by decide +kernel
theorem d9_75 : decode prog_33_method_4_code 75 = .ok (.iload 6, 2) := by decide +kernel
theorem d9_77 : decode prog_33_method_4_code 77 = .ok (.laload, 1) := by decide +kernel
theorem d9_78 : decode prog_33_method_4_code 78 = .ok (.lcmp, 1) := by decide +kernel
theorem d9_79 : decode prog_33_method_4_code 79 = .ok (.ifCond .ge 6, 3) := by decide +kernel
theorem d9_82 : decode prog_33_method_4_code 82 = .ok (.iinc 6 1, 3) := by decide +kernel
theorem d9_85 : decode prog_33_method_4_code 85 = .ok (.aload_n 0, 1) := by decide +kernel
theorem d9_86 : decode prog_33_method_4_code 86 = .ok (.getfield 13, 3) := by decide +kernel
theorem d9_89 : decode prog_33_method_4_code 89 = .ok (.iload 6, 2) := by decide +kernel
theorem d9_91 : decode prog_33_method_4_code 91 = .ok (.laload, 1) := by decide +kernel
theorem d9_92 : decode prog_33_method_4_code 92 = .ok (.lload_n 3, 1) := by decide +kernel
theorem d9_93 : decode prog_33_method_4_code 93 = .ok (.lcmp, 1) := by decide +kernel
theorem d9_94 : decode prog_33_method_4_code 94 = .ok (.ifCond .lt 6, 3) := by decide +kernel
theorem d9_97 : decode prog_33_method_4_code 97 = .ok (.goto 24, 3) := by decide +kernel
theorem d9_100 : decode prog_33_method_4_code 100 = .ok (.aload_n 0, 1) := by decide +kernel
theorem d9_101 : decode prog_33_method_4_code 101 = .ok (.getfield 13, 3) := by decide +kernel
theorem d9_104 : decode prog_33_method_4_code 104 = .ok (.iload 5, 2) := by decide +kernel
theorem d9_106 : decode prog_33_method_4_code 106 = .ok (.aload_n 0, 1) := by decide +kernel
theorem d9_107 : decode prog_33_method_4_code 107 = .ok (.getfield 13, 3) := by decide +kernel
theorem d9_110 : decode prog_33_method_4_code 110 = .ok (.iload 6, 2) := by decide +kernel
theorem d9_112 : decode prog_33_method_4_code 112 = .ok (.laload, 1) := by decide +kernel
theorem d9_113 : decode prog_33_method_4_code 113 = .ok (.lastore, 1) := by decide +kernel
theorem d9_114 : decode prog_33_method_4_code 114 = .ok (.iload 6, 2) := by decide +kernel
theorem d9_116 : decode prog_33_method_4_code 116 = .ok (.istore 5, 2) := by decide +kernel
theorem d9_118 : decode prog_33_method_4_code 118 = .ok (.goto (-88), 3) := by decide +kernel
theorem d9_121 : decode prog_33_method_4_code 121 = .ok (.aload_n 0, 1) := by decide +kernel
theorem d9_122 : decode prog_33_method_4_code 122 = .ok (.getfield 13, 3) := by decide +kernel
theorem d9_125 : decode prog_33_method_4_code 125 = .ok (.iload 5, 2) := by decide +kernel
theorem d9_127 : decode prog_33_method_4_code 127 = .ok (.lload_n 3, 1) := by decide +kernel
theorem d9_128 : decode prog_33_method_4_code 128 = .ok (.lastore, 1) := by decide +kernel
theorem d9_129 : decode prog_33_method_4_code 129 = .ok (.lload_n 1, 1) := by decide +kernel
theorem d9_130 : decode prog_33_method_4_code 130 = .ok (.lreturn, 1) := by decide +kernel
theorem ef_9 (m : MethodId) (ob : Addr) : entryFrame m #[(.ref ob)] 7 = mkF m 0 #[.val (.ref ob), .unset, .unset, .unset, .unset, .unset, .unset] [] := by first | (simp [entryFrame, mkF, argsToLocals, Value.category]; done) | rfl
set_option maxRecDepth 65536 in
set_option maxHeartbeats 40000000 in
theorem rm9_1 (l : Launch) (Z : State) (a0 : Array Value) (hw : ∀ d ∈ tables_1, d.before a0 Z = true) (ob : Addr) (h0 : Heap) (n0 : Nat) (Z0 : n0 ≤ h0.size) (hp : Addr) (y0 : Int64) (rest : List Int64) (E_ob : Exa Z h0 ob "com/example/facet/facet/regex/MinQueue") (g_ob : n0 ≤ ob) (g_hp : n0 ≤ hp) (F_heap : Fld Z h0 ob "com/example/facet/facet/regex/MinQueue" "heap" "[J" (.ref hp)) (F_size : Fld Z h0 ob "com/example/facet/facet/regex/MinQueue" "size" "I" (.int (1 : Int32))) (V_hp : AJ Z h0 hp (y0 :: rest)) (nho : hp ≠ ob) (hO : True) :
    Con l Z (⟨"com/example/facet/facet/regex/MinQueue", "poll", "()J"⟩ : MethodName) prog_33_method_4_code 7 (some .long) ({ frames := 0, cells := 0, slots := 0, locals := 0 } : Room) #[(.ref ob)] h0 (fun v h L => v = some (.long y0) ∧ Fr n0 L ∧ Keep h0 h [ob, hp] ∧ ∃ (rs : List Int64), Fld Z h ob "com/example/facet/facet/regex/MinQueue" "heap" "[J" (.ref hp) ∧ Fld Z h ob "com/example/facet/facet/regex/MinQueue" "size" "I" (.int (0 : Int32)) ∧ AJ Z h hp rs ∧ (True) ∧ (True) ∧ (∀ f : Int64 → Nat, f y0 = f y0)) := by
  refine Con.of (plainFor_of_name (by first | (simp [plainName, overriddenIn]; done) | decide +kernel)) ?_
  intro p e s m below meth c T X hx hZ hby hml hown hnm hret hlk e0
  rw [ef_9]
  have N0 := Fr.nil n0
  have KP0 := Keep.refl h0 [ob, hp]
  show Go p e below s 0 0 (fun v h L => v = some (.long y0) ∧ Fr n0 L ∧ Keep h0 h [ob, hp] ∧ ∃ (rs : List Int64), Fld Z h ob "com/example/facet/facet/regex/MinQueue" "heap" "[J" (.ref hp) ∧ Fld Z h ob "com/example/facet/facet/regex/MinQueue" "size" "I" (.int (0 : Int32)) ∧ AJ Z h hp rs ∧ (True) ∧ (True) ∧ (∀ f : Int64 → Nat, f y0 = f y0)) T (mkF m 0 #[.val (.ref ob), .unset, .unset, .unset, .unset, .unset, .unset] [])
  refine w_aloadN X hx (hb hby d9_0) (pc' := 1) rfl rfl rfl ?_
  refine w_getF X hx hZ hown e0 F_heap (hw _ (List.mem_of_getElem? (i := 19) rfl)) (hb hby d9_1) (pc' := 4) rfl (fun T324 X324 e324 => ?_)
  refine w_iconst (v := 0) X324 hx (hb hby d9_4) (pc' := 5) rfl rfl ?_
  refine w_laload X324 hx hZ e324 V_hp (v := y0) (by decide) rfl (hb hby d9_5) (pc' := 6) rfl ?_
  refine w_lstoreN (Ls' := #[.val (.ref ob), .val (.long y0), .second, .unset, .unset, .unset, .unset]) X324 hx (hb hby d9_6) (pc' := 7) rfl rfl ?_
  refine w_aloadN X324 hx (hb hby d9_7) (pc' := 8) rfl rfl rfl ?_
  refine w_dup X324 hx (hb hby d9_8) (pc' := 9) rfl rfl ?_
  refine w_getF X324 hx hZ hown e324 F_size (hw _ (List.mem_of_getElem? (i := 30) rfl)) (hb hby d9_9) (pc' := 12) rfl (fun T325 X325 e325 => ?_)
  refine w_iconst (v := 1) X325 hx (hb hby d9_12) (pc' := 13) rfl rfl ?_
  refine w_isub X325 hx (hb hby d9_13) (pc' := 14) rfl ?_
  rw [show ((1 : Int32) - (1 : Int32)) = (0 : Int32) from by decide]
  refine w_putF X325 hx hZ hown e325 F_size E_ob (hw _ (List.mem_of_getElem? (i := 30) rfl)) (Or.inl (hw _ (List.mem_of_getElem? (i := 31) rfl))) (hw _ (List.mem_of_getElem? (i := 7) rfl)) (ty := .int) (by decide) rfl rfl (hb hby d9_14) (pc' := 17) rfl (fun T326 h326 X326 e326 W326 => ?_)
  have F326 := F_size.same W326
  have KP326 := KP0.wr W326 (Or.inl (by simp))
  have N326 := Fr.snoc X326 N0 g_ob
  have zn326 : n0 ≤ h326.size := by rw [W326.size]; exact Z0
  refine w_aloadN X326 hx (hb hby d9_17) (pc' := 18) rfl rfl rfl ?_
  have f327 := F_heap.other W326 (Or.inr (slot_ne (Or.inl (hw _ (List.mem_of_getElem? (i := 20) rfl))) (Or.inl (hw _ (List.mem_of_getElem? (i := 31) rfl))) (by decide) (t := (.array .long)) (t' := .int) (by decide) (by decide)))
  refine w_getF X326 hx hZ hown e326 f327 (hw _ (List.mem_of_getElem? (i := 19) rfl)) (hb hby d9_18) (pc' := 21) rfl (fun T328 X328 e328 => ?_)
  refine w_aloadN X328 hx (hb hby d9_21) (pc' := 22) rfl rfl rfl ?_
  refine w_getF X328 hx hZ hown e328 F326 (hw _ (List.mem_of_getElem? (i := 30) rfl)) (hb hby d9_22) (pc' := 25) rfl (fun T329 X329 e329 => ?_)
  have f330 := V_hp.other W326 nho
  refine w_laload X329 hx hZ e329 f330 (v := y0) (by decide) rfl (hb hby d9_25) (pc' := 26) rfl ?_
  refine w_lstoreN (Ls' := #[.val (.ref ob), .val (.long y0), .second, .val (.long y0), .second, .unset, .unset]) X329 hx (hb hby d9_26) (pc' := 27) rfl rfl ?_
  refine w_iconst (v := 0) X329 hx (hb hby d9_27) (pc' := 28) rfl rfl ?_
  refine w_istore (Ls' := #[.val (.ref ob), .val (.long y0), .second, .val (.long y0), .second, .val (.int (0 : Int32)), .unset]) X329 hx (hb hby d9_28) (pc' := 30) rfl rfl ?_
  refine w_iconst (v := 2) X329 hx (hb hby d9_30) (pc' := 31) rfl rfl ?_
  refine w_iload X329 hx (hb hby d9_31) (pc' := 33) rfl rfl ?_
  refine w_imul X329 hx (hb hby d9_33) (pc' := 34) rfl ?_
  rw [show ((2 : Int32) * (0 : Int32)) = (0 : Int32) from by decide]
  refine w_iconst (v := 1) X329 hx (hb hby d9_34) (pc' := 35) rfl rfl ?_
  refine w_iadd X329 hx (hb hby d9_35) (pc' := 36) rfl ?_
  rw [show ((0 : Int32) + (1 : Int32)) = (1 : Int32) from by decide]
  refine w_aloadN X329 hx (hb hby d9_36) (pc' := 37) rfl rfl rfl ?_
  refine w_getF X329 hx hZ hown e329 F326 (hw _ (List.mem_of_getElem? (i := 30) rfl)) (hb hby d9_37) (pc' := 40) rfl (fun T331 X331 e331 => ?_)
  have hf40 : ¬ ((1 : Int32) < (0 : Int32)) := (by decide)
  refine w_icmp_ge X331 hx (hb hby d9_40) (pf := 43) (pt := 121) rfl (by decide) (by decide) (fun hc40 => ?_) (fun hc => absurd hc hf40)
  refine w_aloadN X331 hx (hb hby d9_121) (pc' := 122) rfl rfl rfl ?_
  refine w_getF X331 hx hZ hown e331 f327 (hw _ (List.mem_of_getElem? (i := 19) rfl)) (hb hby d9_122) (pc' := 125) rfl (fun T332 X332 e332 => ?_)
  refine w_iload X332 hx (hb hby d9_125) (pc' := 127) rfl rfl ?_
  refine w_lloadN X332 hx (hb hby d9_127) (pc' := 128) rfl rfl ?_
  refine w_lastore X332 hx hZ e332 f330 (by decide) (by show (0 : Nat) < rest.length + 1; omega) (hb hby d9_128) (pc' := 129) rfl (fun T333 h333 X333 e333 W333 V333 => ?_)
  have V333 : AJ Z h333 hp (y0 :: rest) := V333
  have KP333 := KP326.wr W333 (Or.inl (by simp))
  have N333 := Fr.snoc X333 N326 g_hp
  have zn333 : n0 ≤ h333.size := by rw [W333.size]; exact zn326
  refine w_lloadN X333 hx (hb hby d9_129) (pc' := 130) rfl rfl ?_
  have f334 := f327.other W333 (Or.inl (Ne.symm nho))
  have f335 := F326.other W333 (Or.inl (Ne.symm nho))
  exact w_retJ X333 hx hret hlk (hb hby d9_130) (by decide) (by decide) (by rw [e333]; exact ⟨rfl, N333, KP333, (y0 :: rest), f334, f335, V333, trivial, trivial, (fun f => by omega)⟩)
set_option maxRecDepth 65536 in
set_option maxHeartbeats 40000000 in
theorem rm9_2 (l : Launch) (Z : State) (a0 : Array Value) (hw : ∀ d ∈ tables_1, d.before a0 Z = true) (ob : Addr) (h0 : Heap) (n0 : Nat) (Z0 : n0 ≤ h0.size) (hp : Addr) (y0 : Int64) (y1 : Int64) (rest : List Int64) (E_ob : Exa Z h0 ob "com/example/facet/facet/regex/MinQueue") (g_ob : n0 ≤ ob) (g_hp : n0 ≤ hp) (F_heap : Fld Z h0 ob "com/example/facet/facet/regex/MinQueue" "heap" "[J" (.ref hp)) (F_size : Fld Z h0 ob "com/example/facet/facet/regex/MinQueue" "size" "I" (.int (2 : Int32))) (V_hp : AJ Z h0 hp (y0 :: y1 :: rest)) (nho : hp ≠ ob) (hO : y0.toInt ≤ y1.toInt) :
    Con l Z (⟨"com/example/facet/facet/regex/MinQueue", "poll", "()J"⟩ : MethodName) prog_33_method_4_code 7 (some .long) ({ frames := 0, cells := 0, slots := 0, locals := 0 } : Room) #[(.ref ob)] h0 (fun v h L => v = some (.long y0) ∧ Fr n0 L ∧ Keep h0 h [ob, hp] ∧ ∃ (k0 : Int64) (rs : List Int64), Fld Z h ob "com/example/facet/facet/regex/MinQueue" "heap" "[J" (.ref hp) ∧ Fld Z h ob "com/example/facet/facet/regex/MinQueue" "size" "I" (.int (1 : Int32)) ∧ AJ Z h hp (k0 :: rs) ∧ (True) ∧ (y0.toInt ≤ k0.toInt) ∧ (∀ f : Int64 → Nat, f y0 + f k0 = f y0 + f y1)) := by
  refine Con.of (plainFor_of_name (by first | (simp [plainName, overriddenIn]; done) | decide +kernel)) ?_
  intro p e s m below meth c T X hx hZ hby hml hown hnm hret hlk e0
  rw [ef_9]
  have N0 := Fr.nil n0
  have KP0 := Keep.refl h0 [ob, hp]
  show Go p e below s 0 0 (fun v h L => v = some (.long y0) ∧ Fr n0 L ∧ Keep h0 h [ob, hp] ∧ ∃ (k0 : Int64) (rs : List Int64), Fld Z h ob "com/example/facet/facet/regex/MinQueue" "heap" "[J" (.ref hp) ∧ Fld Z h ob "com/example/facet/facet/regex/MinQueue" "size" "I" (.int (1 : Int32)) ∧ AJ Z h hp (k0 :: rs) ∧ (True) ∧ (y0.toInt ≤ k0.toInt) ∧ (∀ f : Int64 → Nat, f y0 + f k0 = f y0 + f y1)) T (mkF m 0 #[.val (.ref ob), .unset, .unset, .unset, .unset, .unset, .unset] [])
  refine w_aloadN X hx (hb hby d9_0) (pc' := 1) rfl rfl rfl ?_
  refine w_getF X hx hZ hown e0 F_heap (hw _ (List.mem_of_getElem? (i := 19) rfl)) (hb hby d9_1) (pc' := 4) rfl (fun T336 X336 e336 => ?_)
  refine w_iconst (v := 0) X336 hx (hb hby d9_4) (pc' := 5) rfl rfl ?_
  refine w_laload X336 hx hZ e336 V_hp (v := y0) (by decide) rfl (hb hby d9_5) (pc' := 6) rfl ?_
  refine w_lstoreN (Ls' := #[.val (.ref ob), .val (.long y0), .second, .unset, .unset, .unset, .unset]) X336 hx (hb hby d9_6) (pc' := 7) rfl rfl ?_
  refine w_aloadN X336 hx (hb hby d9_7) (pc' := 8) rfl rfl rfl ?_
  refine w_dup X336 hx (hb hby d9_8) (pc' := 9) rfl rfl ?_
  refine w_getF X336 hx hZ hown e336 F_size (hw _ (List.mem_of_getElem? (i := 30) rfl)) (hb hby d9_9) (pc' := 12) rfl (fun T337 X337 e337 => ?_)
  refine w_iconst (v := 1) X337 hx (hb hby d9_12) (pc' := 13) rfl rfl ?_
  refine w_isub X337 hx (hb hby d9_13) (pc' := 14) rfl ?_
  rw [show ((2 : Int32) - (1 : Int32)) = (1 : Int32) from by decide]
  refine w_putF X337 hx hZ hown e337 F_size E_ob (hw _ (List.mem_of_getElem? (i := 30) rfl)) (Or.inl (hw _ (List.mem_of_getElem? (i := 31) rfl))) (hw _ (List.mem_of_getElem? (i := 7) rfl)) (ty := .int) (by decide) rfl rfl (hb hby d9_14) (pc' := 17) rfl (fun T338 h338 X338 e338 W338 => ?_)
  have F338 := F_size.same W338
  have KP338 := KP0.wr W338 (Or.inl (by simp))
  have N338 := Fr.snoc X338 N0 g_ob
  have zn338 : n0 ≤ h338.size := by rw [W338.size]; exact Z0
  refine w_aloadN X338 hx (hb hby d9_17) (pc' := 18) rfl rfl rfl ?_
  have f339 := F_heap.other W338 (Or.inr (slot_ne (Or.inl (hw _ (List.mem_of_getElem? (i := 20) rfl))) (Or.inl (hw _ (List.mem_of_getElem? (i := 31) rfl))) (by decide) (t := (.array .long)) (t' := .int) (by decide) (by decide)))
  refine w_getF X338 hx hZ hown e338 f339 (hw _ (List.mem_of_getElem? (i := 19) rfl)) (hb hby d9_18) (pc' := 21) rfl (fun T340 X340 e340 => ?_)
  refine w_aloadN X340 hx (hb hby d9_21) (pc' := 22) rfl rfl rfl ?_
  refine w_getF X340 hx hZ hown e340 F338 (hw _ (List.mem_of_getElem? (i := 30) rfl)) (hb hby d9_22) (pc' := 25) rfl (fun T341 X341 e341 => ?_)
  have f342 := V_hp.other W338 nho
  refine w_laload X341 hx hZ e341 f342 (v := y1) (by decide) rfl (hb hby d9_25) (pc' := 26) rfl ?_
  refine w_lstoreN (Ls' := #[.val (.ref ob), .val (.long y0), .second, .val (.long y1), .second, .unset, .unset]) X341 hx (hb hby d9_26) (pc' := 27) rfl rfl ?_
  refine w_iconst (v := 0) X341 hx (hb hby d9_27) (pc' := 28) rfl rfl ?_
  refine w_istore (Ls' := #[.val (.ref ob), .val (.long y0), .second, .val (.long y1), .second, .val (.int (0 : Int32)), .unset]) X341 hx (hb hby d9_28) (pc' := 30) rfl rfl ?_
  refine w_iconst (v := 2) X341 hx (hb hby d9_30) (pc' := 31) rfl rfl ?_
  refine w_iload X341 hx (hb hby d9_31) (pc' := 33) rfl rfl ?_
  refine w_imul X341 hx (hb hby d9_33) (pc' := 34) rfl ?_
  rw [show ((2 : Int32) * (0 : Int32)) = (0 : Int32) from by decide]
  refine w_iconst (v := 1) X341 hx (hb hby d9_34) (pc' := 35) rfl rfl ?_
  refine w_iadd X341 hx (hb hby d9_35) (pc' := 36) rfl ?_
  rw [show ((0 : Int32) + (1 : Int32)) = (1 : Int32) from by decide]
  refine w_aloadN X341 hx (hb hby d9_36) (pc' := 37) rfl rfl rfl ?_
  refine w_getF X341 hx hZ hown e341 F338 (hw _ (List.mem_of_getElem? (i := 30) rfl)) (hb hby d9_37) (pc' := 40) rfl (fun T343 X343 e343 => ?_)
  have hf40 : ¬ ((1 : Int32) < (1 : Int32)) := (by decide)
  refine w_icmp_ge X343 hx (hb hby d9_40) (pf := 43) (pt := 121) rfl (by decide) (by decide) (fun hc40 => ?_) (fun hc => absurd hc hf40)
  refine w_aloadN X343 hx (hb hby d9_121) (pc' := 122) rfl rfl rfl ?_
  refine w_getF X343 hx hZ hown e343 f339 (hw _ (List.mem_of_getElem? (i := 19) rfl)) (hb hby d9_122) (pc' := 125) rfl (fun T344 X344 e344 => ?_)
  refine w_iload X344 hx (hb hby d9_125) (pc' := 127) rfl rfl ?_
  refine w_lloadN X344 hx (hb hby d9_127) (pc' := 128) rfl rfl ?_
  refine w_lastore X344 hx hZ e344 f342 (by decide) (by show (0 : Nat) < rest.length + 1 + 1; omega) (hb hby d9_128) (pc' := 129) rfl (fun T345 h345 X345 e345 W345 V345 => ?_)
  have V345 : AJ Z h345 hp (y1 :: y1 :: rest) := V345
  have KP345 := KP338.wr W345 (Or.inl (by simp))
  have N345 := Fr.snoc X345 N338 g_hp
  have zn345 : n0 ≤ h345.size := by rw [W345.size]; exact zn338
  refine w_lloadN X345 hx (hb hby d9_129) (pc' := 130) rfl rfl ?_
  have f346 := f339.other W345 (Or.inl (Ne.symm nho))
  have f347 := F338.other W345 (Or.inl (Ne.symm nho))
  exact w_retJ X345 hx hret hlk (hb hby d9_130) (by decide) (by decide) (by rw [e345]; exact ⟨rfl, N345, KP345, y1, (y1 :: rest), f346, f347, V345, trivial, (by omega), (fun f => by omega)⟩)
set_option maxRecDepth 65536 in
set_option maxHeartbeats 40000000 in
theorem rm9_3 (l : Launch) (Z : State) (a0 : Array Value) (hw : ∀ d ∈ tables_1, d.before a0 Z = true) (ob : Addr) (h0 : Heap) (n0 : Nat) (Z0 : n0 ≤ h0.size) (hp : Addr) (y0 : Int64) (y1 : Int64) (y2 : Int64) (rest : List Int64) (E_ob : Exa Z h0 ob "com/example/facet/facet/regex/MinQueue") (g_ob : n0 ≤ ob) (g_hp : n0 ≤ hp) (F_heap : Fld Z h0 ob "com/example/facet/facet/regex/MinQueue" "heap" "[J" (.ref hp)) (F_size : Fld Z h0 ob "com/example/facet/facet/regex/MinQueue" "size" "I" (.int (3 : Int32))) (V_hp : AJ Z h0 hp (y0 :: y1 :: y2 :: rest)) (nho : hp ≠ ob) (hO : y0.toInt ≤ y1.toInt ∧ y0.toInt ≤ y2.toInt) :
    Con l Z (⟨"com/example/facet/facet/regex/MinQueue", "poll", "()J"⟩ : MethodName) prog_33_method_4_code 7 (some .long) ({ frames := 0, cells := 0, slots := 0, locals := 0 } : Room) #[(.ref ob)] h0 (fun v h L => v = some (.long y0) ∧ Fr n0 L ∧ Keep h0 h [ob, hp] ∧ ∃ (k0 k1 : Int64) (rs : List Int64), Fld Z h ob "com/example/facet/facet/regex/MinQueue" "heap" "[J" (.ref hp) ∧ Fld Z h ob "com/example/facet/facet/regex/MinQueue" "size" "I" (.int (2 : Int32)) ∧ AJ Z h hp (k0 :: k1 :: rs) ∧ (k0.toInt ≤ k1.toInt) ∧ (y0.toInt ≤ k0.toInt) ∧ (∀ f : Int64 → Nat, f y0 + f k0 + f k1 = f y0 + f y1 + f y2)) := by
  refine Con.of (plainFor_of_name (by first | (simp [plainName, overriddenIn]; done) | decide +kernel)) ?_
  intro p e s m below meth c T X hx hZ hby hml hown hnm hret hlk e0
  rw [ef_9]
  have N0 := Fr.nil n0
  have KP0 := Keep.refl h0 [ob, hp]
  show Go p e below s 0 0 (fun v h L => v = some (.long y0) ∧ Fr n0 L ∧ Keep h0 h [ob, hp] ∧ ∃ (k0 k1 : Int64) (rs : List Int64), Fld Z h ob "com/example/facet/facet/regex/MinQueue" "heap" "[J" (.ref hp) ∧ Fld Z h ob "com/example/facet/facet/regex/MinQueue" "size" "I" (.int (2 : Int32)) ∧ AJ Z h hp (k0 :: k1 :: rs) ∧ (k0.toInt ≤ k1.toInt) ∧ (y0.toInt ≤ k0.toInt) ∧ (∀ f : Int64 → Nat, f y0 + f k0 + f k1 = f y0 + f y1 + f y2)) T (mkF m 0 #[.val (.ref ob), .unset, .unset, .unset, .unset, .unset, .unset] [])
  refine w_aloadN X hx (hb hby d9_0) (pc' := 1) rfl rfl rfl ?_
  refine w_getF X hx hZ hown e0 F_heap (hw _ (List.mem_of_getElem? (i := 19) rfl)) (hb hby d9_1) (pc' := 4) rfl (fun T348 X348 e348 => ?_)
  refine w_iconst (v := 0) X348 hx (hb hby d9_4) (pc' := 5) rfl rfl ?_
  refine w_laload X348 hx hZ e348 V_hp (v := y0) (by decide) rfl (hb hby d9_5) (pc' := 6) rfl ?_
  refine w_lstoreN (Ls' := #[.val (.ref ob), .val (.long y0), .second, .unset, .unset, .unset, .unset]) X348 hx (hb hby d9_6) (pc' := 7) rfl rfl ?_
  refine w_aloadN X348 hx (hb hby d9_7) (pc' := 8) rfl rfl rfl ?_
  refine w_dup X348 hx (hb hby d9_8) (pc' := 9) rfl rfl ?_
  refine w_getF X348 hx hZ hown e348 F_size (hw _ (List.mem_of_getElem? (i := 30) rfl)) (hb hby d9_9) (pc' := 12) rfl (fun T349 X349 e349 => ?_)
  refine w_iconst (v := 1) X349 hx (hb hby d9_12) (pc' := 13) rfl rfl ?_
  refine w_isub X349 hx (hb hby d9_13) (pc' := 14) rfl ?_
  rw [show ((3 : Int32) - (1 : Int32)) = (2 : Int32) from by decide]
  refine w_putF X349 hx hZ hown e349 F_size E_ob (hw _ (List.mem_of_getElem? (i := 30) rfl)) (Or.inl (hw _ (List.mem_of_getElem? (i := 31) rfl))) (hw _ (List.mem_of_getElem? (i := 7) rfl)) (ty := .int) (by decide) rfl rfl (hb hby d9_14) (pc' := 17) rfl (fun T350 h350 X350 e350 W350 => ?_)
  have F350 := F_size.same W350
  have KP350 := KP0.wr W350 (Or.inl (by simp))
  have N350 := Fr.snoc X350 N0 g_ob
  have zn350 : n0 ≤ h350.size := by rw [W350.size]; exact Z0
  refine w_aloadN X350 hx (hb hby d9_17) (pc' := 18) rfl rfl rfl ?_
  have f351 := F_heap.other W350 (Or.inr (slot_ne (Or.inl (hw _ (List.mem_of_getElem? (i := 20) rfl))) (Or.inl (hw _ (List.mem_of_getElem? (i := 31) rfl))) (by decide) (t := (.array .long)) (t' := .int) (by decide) (by decide)))
  refine w_getF X350 hx hZ hown e350 f351 (hw _ (List.mem_of_getElem? (i := 19) rfl)) (hb hby d9_18) (pc' := 21) rfl (fun T352 X352 e352 => ?_)
  refine w_aloadN X352 hx (hb hby d9_21) (pc' := 22) rfl rfl rfl ?_
  refine w_getF X352 hx hZ hown e352 F350 (hw _ (List.mem_of_getElem? (i := 30) rfl)) (hb hby d9_22) (pc' := 25) rfl (fun T353 X353 e353 => ?_)
  have f354 := V_hp.other W350 nho
  refine w_laload X353 hx hZ e353 f354 (v := y2) (by decide) rfl (hb hby d9_25) (pc' := 26) rfl ?_
  refine w_lstoreN (Ls' := #[.val (.ref ob), .val (.long y0), .second, .val (.long y2), .second, .unset, .unset]) X353 hx (hb hby d9_26) (pc' := 27) rfl rfl ?_
  refine w_iconst (v := 0) X353 hx (hb hby d9_27) (pc' := 28) rfl rfl ?_
  refine w_istore (Ls' := #[.val (.ref ob), .val (.long y0), .second, .val (.long y2), .second, .val (.int (0 : Int32)), .unset]) X353 hx (hb hby d9_28) (pc' := 30) rfl rfl ?_
  refine w_iconst (v := 2) X353 hx (hb hby d9_30) (pc' := 31) rfl rfl ?_
  refine w_iload X353 hx (hb hby d9_31) (pc' := 33) rfl rfl ?_
  refine w_imul X353 hx (hb hby d9_33) (pc' := 34) rfl ?_
  rw [show ((2 : Int32) * (0 : Int32)) = (0 : Int32) from by decide]
  refine w_iconst (v := 1) X353 hx (hb hby d9_34) (pc' := 35) rfl rfl ?_
  refine w_iadd X353 hx (hb hby d9_35) (pc' := 36) rfl ?_
  rw [show ((0 : Int32) + (1 : Int32)) = (1 : Int32) from by decide]
  refine w_aloadN X353 hx (hb hby d9_36) (pc' := 37) rfl rfl rfl ?_
  refine w_getF X353 hx hZ hown e353 F350 (hw _ (List.mem_of_getElem? (i := 30) rfl)) (hb hby d9_37) (pc' := 40) rfl (fun T355 X355 e355 => ?_)
  have hf40 : (1 : Int32) < (2 : Int32) := (by decide)
  refine w_icmp_ge X355 hx (hb hby d9_40) (pf := 43) (pt := 121) rfl (by decide) (by decide) (fun hc => absurd hf40 hc) (fun hc40 => ?_)
  refine w_iconst (v := 2) X355 hx (hb hby d9_43) (pc' := 44) rfl rfl ?_
  refine w_iload X355 hx (hb hby d9_44) (pc' := 46) rfl rfl ?_
  refine w_imul X355 hx (hb hby d9_46) (pc' := 47) rfl ?_
  rw [show ((2 : Int32) * (0 : Int32)) = (0 : Int32) from by decide]
  refine w_iconst (v := 1) X355 hx (hb hby d9_47) (pc' := 48) rfl rfl ?_
  refine w_iadd X355 hx (hb hby d9_48) (pc' := 49) rfl ?_
  rw [show ((0 : Int32) + (1 : Int32)) = (1 : Int32) from by decide]
  refine w_istore (Ls' := #[.val (.ref ob), .val (.long y0), .second, .val (.long y2), .second, .val (.int (0 : Int32)), .val (.int (1 : Int32))]) X355 hx (hb hby d9_49) (pc' := 51) rfl rfl ?_
  refine w_iload X355 hx (hb hby d9_51) (pc' := 53) rfl rfl ?_
  refine w_iconst (v := 1) X355 hx (hb hby d9_53) (pc' := 54) rfl rfl ?_
  refine w_iadd X355 hx (hb hby d9_54) (pc' := 55) rfl ?_
  rw [show ((1 : Int32) + (1 : Int32)) = (2 : Int32) from by decide]
  refine w_aloadN X355 hx (hb hby d9_55) (pc' := 56) rfl rfl rfl ?_
  refine w_getF X355 hx hZ hown e355 F350 (hw _ (List.mem_of_getElem? (i := 30) rfl)) (hb hby d9_56) (pc' := 59) rfl (fun T356 X356 e356 => ?_)
  have hf59 : ¬ ((2 : Int32) < (2 : Int32)) := (by decide)
  refine w_icmp_ge X356 hx (hb hby d9_59) (pf := 62) (pt := 85) rfl (by decide) (by decide) (fun hc59 => ?_) (fun hc => absurd hc hf59)
  refine w_aloadN X356 hx (hb hby d9_85) (pc' := 86) rfl rfl rfl ?_
  refine w_getF X356 hx hZ hown e356 f351 (hw _ (List.mem_of_getElem? (i := 19) rfl)) (hb hby d9_86) (pc' := 89) rfl (fun T357 X357 e357 => ?_)
  refine w_iload X357 hx (hb hby d9_89) (pc' := 91) rfl rfl ?_
  refine w_laload X357 hx hZ e357 f354 (v := y1) (by decide) rfl (hb hby d9_91) (pc' := 92) rfl ?_
  refine w_lloadN X357 hx (hb hby d9_92) (pc' := 93) rfl rfl ?_
  refine w_lcmp X357 hx (hb hby d9_93) (pc' := 94) rfl ?_
  refine w_ifL_lt X357 hx (hb hby d9_94) (pf := 97) (pt := 100) rfl (by decide) (by decide) (fun hc94 => ?_) (fun hc94 => ?_)
  · have hz368 := Int64.lt_iff_toInt_lt.mp hc94
    refine w_aloadN X357 hx (hb hby d9_100) (pc' := 101) rfl rfl rfl ?_
    refine w_getF X357 hx hZ hown e357 f351 (hw _ (List.mem_of_getElem? (i := 19) rfl)) (hb hby d9_101) (pc' := 104) rfl (fun T358 X358 e358 => ?_)
    refine w_iload X358 hx (hb hby d9_104) (pc' := 106) rfl rfl ?_
    refine w_aloadN X358 hx (hb hby d9_106) (pc' := 107) rfl rfl rfl ?_
    refine w_getF X358 hx hZ hown e358 f351 (hw _ (List.mem_of_getElem? (i := 19) rfl)) (hb hby d9_107) (pc' := 110) rfl (fun T359 X359 e359 => ?_)
    refine w_iload X359 hx (hb hby d9_110) (pc' := 112) rfl rfl ?_
    refine w_laload X359 hx hZ e359 f354 (v := y1) (by decide) rfl (hb hby d9_112) (pc' := 113) rfl ?_
    refine w_lastore X359 hx hZ e359 f354 (by decide) (by show (0 : Nat) < rest.length + 1 + 1 + 1; omega) (hb hby d9_113) (pc' := 114) rfl (fun T360 h360 X360 e360 W360 V360 => ?_)
    have V360 : AJ Z h360 hp (y1 :: y1 :: y2 :: rest) := V360
    have KP360 := KP350.wr W360 (Or.inl (by simp))
    have N360 := Fr.snoc X360 N350 g_hp
    have zn360 : n0 ≤ h360.size := by rw [W360.size]; exact zn350
    refine w_iload X360 hx (hb hby d9_114) (pc' := 116) rfl rfl ?_
    refine w_istore (Ls' := #[.val (.ref ob), .val (.long y0), .second, .val (.long y2), .second, .val (.int (1 : Int32)), .val (.int (1 : Int32))]) X360 hx (hb hby d9_116) (pc' := 118) rfl rfl ?_
    refine w_goto X360 hx (hb hby d9_118) (pc' := 30) (by decide) (by decide) ?_
    refine w_iconst (v := 2) X360 hx (hb hby d9_30) (pc' := 31) rfl rfl ?_
    refine w_iload X360 hx (hb hby d9_31) (pc' := 33) rfl rfl ?_
    refine w_imul X360 hx (hb hby d9_33) (pc' := 34) rfl ?_
    rw [show ((2 : Int32) * (1 : Int32)) = (2 : Int32) from by decide]
    refine w_iconst (v := 1) X360 hx (hb hby d9_34) (pc' := 35) rfl rfl ?_
    refine w_iadd X360 hx (hb hby d9_35) (pc' := 36) rfl ?_
    rw [show ((2 : Int32) + (1 : Int32)) = (3 : Int32) from by decide]
    refine w_aloadN X360 hx (hb hby d9_36) (pc' := 37) rfl rfl rfl ?_
    have f361 := F350.other W360 (Or.inl (Ne.symm nho))
    refine w_getF X360 hx hZ hown e360 f361 (hw _ (List.mem_of_getElem? (i := 30) rfl)) (hb hby d9_37) (pc' := 40) rfl (fun T362 X362 e362 => ?_)
    have hf40 : ¬ ((3 : Int32) < (2 : Int32)) := (by decide)
    refine w_icmp_ge X362 hx (hb hby d9_40) (pf := 43) (pt := 121) rfl (by decide) (by decide) (fun hc40 => ?_) (fun hc => absurd hc hf40)
    refine w_aloadN X362 hx (hb hby d9_121) (pc' := 122) rfl rfl rfl ?_
    have f363 := f351.other W360 (Or.inl (Ne.symm nho))
    refine w_getF X362 hx hZ hown e362 f363 (hw _ (List.mem_of_getElem? (i := 19) rfl)) (hb hby d9_122) (pc' := 125) rfl (fun T364 X364 e364 => ?_)
    refine w_iload X364 hx (hb hby d9_125) (pc' := 127) rfl rfl ?_
    refine w_lloadN X364 hx (hb hby d9_127) (pc' := 128) rfl rfl ?_
    refine w_lastore X364 hx hZ e364 V360 (by decide) (by show (1 : Nat) < rest.length + 1 + 1 + 1; omega) (hb hby d9_128) (pc' := 129) rfl (fun T365 h365 X365 e365 W365 V365 => ?_)
    have V365 : AJ Z h365 hp (y1 :: y2 :: y2 :: rest) := V365
    have KP365 := KP360.wr W365 (Or.inl (by simp))
    have N365 := Fr.snoc X365 N360 g_hp
    have zn365 : n0 ≤ h365.size := by rw [W365.size]; exact zn360
    refine w_lloadN X365 hx (hb hby d9_129) (pc' := 130) rfl rfl ?_
    have f366 := f363.other W365 (Or.inl (Ne.symm nho))
    have f367 := f361.other W365 (Or.inl (Ne.symm nho))
    exact w_retJ X365 hx hret hlk (hb hby d9_130) (by decide) (by decide) (by rw [e365]; exact ⟨rfl, N365, KP365, y1, y2, (y2 :: rest), f366, f367, V365, (by omega), (by omega), (fun f => by omega)⟩)
  · have hz373 := mt Int64.lt_iff_toInt_lt.mpr hc94
    refine w_goto X357 hx (hb hby d9_97) (pc' := 121) (by decide) (by decide) ?_
    refine w_aloadN X357 hx (hb hby d9_121) (pc' := 122) rfl rfl rfl ?_
    refine w_getF X357 hx hZ hown e357 f351 (hw _ (List.mem_of_getElem? (i := 19) rfl)) (hb hby d9_122) (pc' := 125) rfl (fun T369 X369 e369 => ?_)
    refine w_iload X369 hx (hb hby d9_125) (pc' := 127) rfl rfl ?_
    refine w_lloadN X369 hx (hb hby d9_127) (pc' := 128) rfl rfl ?_
    refine w_lastore X369 hx hZ e369 f354 (by decide) (by show (0 : Nat) < rest.length + 1 + 1 + 1; omega) (hb hby d9_128) (pc' := 129) rfl (fun T370 h370 X370 e370 W370 V370 => ?_)
    have V370 : AJ Z h370 hp (y2 :: y1 :: y2 :: rest) := V370
    have KP370 := KP350.wr W370 (Or.inl (by simp))
    have N370 := Fr.snoc X370 N350 g_hp
    have zn370 : n0 ≤ h370.size := by rw [W370.size]; exact zn350
    refine w_lloadN X370 hx (hb hby d9_129) (pc' := 130) rfl rfl ?_
    have f371 := f351.other W370 (Or.inl (Ne.symm nho))
    have f372 := F350.other W370 (Or.inl (Ne.symm nho))
    exact w_retJ X370 hx hret hlk (hb hby d9_130) (by decide) (by decide) (by rw [e370]; exact ⟨rfl, N370, KP370, y2, y1, (y2 :: rest), f371, f372, V370, (by omega), (by omega), (fun f => by omega)⟩)
set_option maxRecDepth 65536 in
set_option maxHeartbeats 40000000 in
theorem rm9_4 (l : Launch) (Z : State) (a0 : Array Value) (hw : ∀ d ∈ tables_1, d.before a0 Z = true) (ob : Addr) (h0 : Heap) (n0 : Nat) (Z0 : n0 ≤ h0.size) (hp : Addr) (y0 : Int64) (y1 : Int64) (y2 : Int64) (y3 : Int64) (rest : List Int64) (E_ob : Exa Z h0 ob "com/example/facet/facet/regex/MinQueue") (g_ob : n0 ≤ ob) (g_hp : n0 ≤ hp) (F_heap : Fld Z h0 ob "com/example/facet/facet/regex/MinQueue" "heap" "[J" (.ref hp)) (F_size : Fld Z h0 ob "com/example/facet/facet/regex/MinQueue" "size" "I" (.int (4 : Int32))) (V_hp : AJ Z h0 hp (y0 :: y1 :: y2 :: y3 :: rest)) (nho : hp ≠ ob) (hO : y0.toInt ≤ y1.toInt ∧ y0.toInt ≤ y2.toInt ∧ y1.toInt ≤ y3.toInt) :
    Con l Z (⟨"com/example/facet/facet/regex/MinQueue", "poll", "()J"⟩ : MethodName) prog_33_method_4_code 7 (some .long) ({ frames := 0, cells := 0, slots := 0, locals := 0 } : Room) #[(.ref ob)] h0 (fun v h L => v = some (.long y0) ∧ Fr n0 L ∧ Keep h0 h [ob, hp] ∧ ∃ (k0 k1 k2 : Int64) (rs : List Int64), Fld Z h ob "com/example/facet/facet/regex/MinQueue" "heap" "[J" (.ref hp) ∧ Fld Z h ob "com/example/facet/facet/regex/MinQueue" "size" "I" (.int (3 : Int32)) ∧ AJ Z h hp (k0 :: k1 :: k2 :: rs) ∧ (k0.toInt ≤ k1.toInt ∧ k0.toInt ≤ k2.toInt) ∧ (y0.toInt ≤ k0.toInt) ∧ (∀ f : Int64 → Nat, f y0 + f k0 + f k1 + f k2 = f y0 + f y1 + f y2 + f y3)) := by
  refine Con.of (plainFor_of_name (by first | (simp [plainName, overriddenIn]; done) | decide +kernel)) ?_
  intro p e s m below meth c T X hx hZ hby hml hown hnm hret hlk e0
  rw [ef_9]
  have N0 := Fr.nil n0
  have KP0 := Keep.refl h0 [ob, hp]
  show Go p e below s 0 0 (fun v h L => v = some (.long y0) ∧ Fr n0 L ∧ Keep h0 h [ob, hp] ∧ ∃ (k0 k1 k2 : Int64) (rs : List Int64), Fld Z h ob "com/example/facet/facet/regex/MinQueue" "heap" "[J" (.ref hp) ∧ Fld Z h ob "com/example/facet/facet/regex/MinQueue" "size" "I" (.int (3 : Int32)) ∧ AJ Z h hp (k0 :: k1 :: k2 :: rs) ∧ (k0.toInt ≤ k1.toInt ∧ k0.toInt ≤ k2.toInt) ∧ (y0.toInt ≤ k0.toInt) ∧ (∀ f : Int64 → Nat, f y0 + f k0 + f k1 + f k2 = f y0 + f y1 + f y2 + f y3)) T (mkF m 0 #[.val (.ref ob), .unset, .unset, .unset, .unset, .unset, .unset] [])
  refine w_aloadN X hx (hb hby d9_0) (pc' := 1) rfl rfl rfl ?_
  refine w_getF X hx hZ hown e0 F_heap (hw _ (List.mem_of_getElem? (i := 19) rfl)) (hb hby d9_1) (pc' := 4) rfl (fun T374 X374 e374 => ?_)
  refine w_iconst (v := 0) X374 hx (hb hby d9_4) (pc' := 5) rfl rfl ?_
  refine w_laload X374 hx hZ e374 V_hp (v := y0) (by decide) rfl (hb hby d9_5) (pc' := 6) rfl ?_
  refine w_lstoreN (Ls' := #[.val (.ref ob), .val (.long y0), .second, .unset, .unset, .unset, .unset]) X374 hx (hb hby d9_6) (pc' := 7) rfl rfl ?_
  refine w_aloadN X374 hx (hb hby d9_7) (pc' := 8) rfl rfl rfl ?_
  refine w_dup X374 hx (hb hby d9_8) (pc' := 9) rfl rfl ?_
  refine w_getF X374 hx hZ hown e374 F_size (hw _ (List.mem_of_getElem? (i := 30) rfl)) (hb hby d9_9) (pc' := 12) rfl (fun T375 X375 e375 => ?_)
  refine w_iconst (v := 1) X375 hx (hb hby d9_12) (pc' := 13) rfl rfl ?_
  refine w_isub X375 hx (hb hby d9_13) (pc' := 14) rfl ?_
  rw [show ((4 : Int32) - (1 : Int32)) = (3 : Int32) from by decide]
  refine w_putF X375 hx hZ hown e375 F_size E_ob (hw _ (List.mem_of_getElem? (i := 30) rfl)) (Or.inl (hw _ (List.mem_of_getElem? (i := 31) rfl))) (hw _ (List.mem_of_getElem? (i := 7) rfl)) (ty := .int) (by decide) rfl rfl (hb hby d9_14) (pc' := 17) rfl (fun T376 h376 X376 e376 W376 => ?_)
  have F376 := F_size.same W376
  have KP376 := KP0.wr W376 (Or.inl (by simp))
  have N376 := Fr.snoc X376 N0 g_ob
  have zn376 : n0 ≤ h376.size := by rw [W376.size]; exact Z0
  refine w_aloadN X376 hx (hb hby d9_17) (pc' := 18) rfl rfl rfl ?_
  have f377 := F_heap.other W376 (Or.inr (slot_ne (Or.inl (hw _ (List.mem_of_getElem? (i := 20) rfl))) (Or.inl (hw _ (List.mem_of_getElem? (i := 31) rfl))) (by decide) (t := (.array .long)) (t' := .int) (by decide) (by decide)))
  refine w_getF X376 hx hZ hown e376 f377 (hw _ (List.mem_of_getElem? (i := 19) rfl)) (hb hby d9_18) (pc' := 21) rfl (fun T378 X378 e378 => ?_)
  refine w_aloadN X378 hx (hb hby d9_21) (pc' := 22) rfl rfl rfl ?_
  refine w_getF X378 hx hZ hown e378 F376 (hw _ (List.mem_of_getElem? (i := 30) rfl)) (hb hby d9_22) (pc' := 25) rfl (fun T379 X379 e379 => ?_)
  have f380 := V_hp.other W376 nho
  refine w_laload X379 hx hZ e379 f380 (v := y3) (by decide) rfl (hb hby d9_25) (pc' := 26) rfl ?_
  refine w_lstoreN (Ls' := #[.val (.ref ob), .val (.long y0), .second, .val (.long y3), .second, .unset, .unset]) X379 hx (hb hby d9_26) (pc' := 27) rfl rfl ?_
  refine w_iconst (v := 0) X379 hx (hb hby d9_27) (pc' := 28) rfl rfl ?_
  refine w_istore (Ls' := #[.val (.ref ob), .val (.long y0), .second, .val (.long y3), .second, .val (.int (0 : Int32)), .unset]) X379 hx (hb hby d9_28) (pc' := 30) rfl rfl ?_
  refine w_iconst (v := 2) X379 hx (hb hby d9_30) (pc' := 31) rfl rfl ?_
  refine w_iload X379 hx (hb hby d9_31) (pc' := 33) rfl rfl ?_
  refine w_imul X379 hx (hb hby d9_33) (pc' := 34) rfl ?_
  rw [show ((2 : Int32) * (0 : Int32)) = (0 : Int32) from by decide]
  refine w_iconst (v := 1) X379 hx (hb hby d9_34) (pc' := 35) rfl rfl ?_
  refine w_iadd X379 hx (hb hby d9_35) (pc' := 36) rfl ?_
  rw [show ((0 : Int32) + (1 : Int32)) = (1 : Int32) from by decide]
  refine w_aloadN X379 hx (hb hby d9_36) (pc' := 37) rfl rfl rfl ?_
  refine w_getF X379 hx hZ hown e379 F376 (hw _ (List.mem_of_getElem? (i := 30) rfl)) (hb hby d9_37) (pc' := 40) rfl (fun T381 X381 e381 => ?_)
  have hf40 : (1 : Int32) < (3 : Int32) := (by decide)
  refine w_icmp_ge X381 hx (hb hby d9_40) (pf := 43) (pt := 121) rfl (by decide) (by decide) (fun hc => absurd hf40 hc) (fun hc40 => ?_)
  refine w_iconst (v := 2) X381 hx (hb hby d9_43) (pc' := 44) rfl rfl ?_
  refine w_iload X381 hx (hb hby d9_44) (pc' := 46) rfl rfl ?_
  refine w_imul X381 hx (hb hby d9_46) (pc' := 47) rfl ?_
  rw [show ((2 : Int32) * (0 : Int32)) = (0 : Int32) from by decide]
  refine w_iconst (v := 1) X381 hx (hb hby d9_47) (pc' := 48) rfl rfl ?_
  refine w_iadd X381 hx (hb hby d9_48) (pc' := 49) rfl ?_
  rw [show ((0 : Int32) + (1 : Int32)) = (1 : Int32) from by decide]
  refine w_istore (Ls' := #[.val (.ref ob), .val (.long y0), .second, .val (.long y3), .second, .val (.int (0 : Int32)), .val (.int (1 : Int32))]) X381 hx (hb hby d9_49) (pc' := 51) rfl rfl ?_
  refine w_iload X381 hx (hb hby d9_51) (pc' := 53) rfl rfl ?_
  refine w_iconst (v := 1) X381 hx (hb hby d9_53) (pc' := 54) rfl rfl ?_
  refine w_iadd X381 hx (hb hby d9_54) (pc' := 55) rfl ?_
  rw [show ((1 : Int32) + (1 : Int32)) = (2 : Int32) from by decide]
  refine w_aloadN X381 hx (hb hby d9_55) (pc' := 56) rfl rfl rfl ?_
  refine w_getF X381 hx hZ hown e381 F376 (hw _ (List.mem_of_getElem? (i := 30) rfl)) (hb hby d9_56) (pc' := 59) rfl (fun T382 X382 e382 => ?_)
  have hf59 : (2 : Int32) < (3 : Int32) := (by decide)
  refine w_icmp_ge X382 hx (hb hby d9_59) (pf := 62) (pt := 85) rfl (by decide) (by decide) (fun hc => absurd hf59 hc) (fun hc59 => ?_)
  refine w_aloadN X382 hx (hb hby d9_62) (pc' := 63) rfl rfl rfl ?_
  refine w_getF X382 hx hZ hown e382 f377 (hw _ (List.mem_of_getElem? (i := 19) rfl)) (hb hby d9_63) (pc' := 66) rfl (fun T383 X383 e383 => ?_)
  refine w_iload X383 hx (hb hby d9_66) (pc' := 68) rfl rfl ?_
  refine w_iconst (v := 1) X383 hx (hb hby d9_68) (pc' := 69) rfl rfl ?_
  refine w_iadd X383 hx (hb hby d9_69) (pc' := 70) rfl ?_
  rw [show ((1 : Int32) + (1 : Int32)) = (2 : Int32) from by decide]
  refine w_laload X383 hx hZ e383 f380 (v := y2) (by decide) rfl (hb hby d9_70) (pc' := 71) rfl ?_
  refine w_aloadN X383 hx (hb hby d9_71) (pc' := 72) rfl rfl rfl ?_
  refine w_getF X383 hx hZ hown e383 f377 (hw _ (List.mem_of_getElem? (i := 19) rfl)) (hb hby d9_72) (pc' := 75) rfl (fun T384 X384 e384 => ?_)
  refine w_iload X384 hx (hb hby d9_75) (pc' := 77) rfl rfl ?_
  refine w_laload X384 hx hZ e384 f380 (v := y1) (by decide) rfl (hb hby d9_77) (pc' := 78) rfl ?_
  refine w_lcmp X384 hx (hb hby d9_78) (pc' := 79) rfl ?_
  refine w_ifL_ge X384 hx (hb hby d9_79) (pf := 82) (pt := 85) rfl (by decide) (by decide) (fun hc79 => ?_) (fun hc79 => ?_)
  · have hz402 := mt Int64.lt_iff_toInt_lt.mpr hc79
    refine w_aloadN X384 hx (hb hby d9_85) (pc' := 86) rfl rfl rfl ?_
    refine w_getF X384 hx hZ hown e384 f377 (hw _ (List.mem_of_getElem? (i := 19) rfl)) (hb hby d9_86) (pc' := 89) rfl (fun T385 X385 e385 => ?_)
    refine w_iload X385 hx (hb hby d9_89) (pc' := 91) rfl rfl ?_
    refine w_laload X385 hx hZ e385 f380 (v := y1) (by decide) rfl (hb hby d9_91) (pc' := 92) rfl ?_
    refine w_lloadN X385 hx (hb hby d9_92) (pc' := 93) rfl rfl ?_
    refine w_lcmp X385 hx (hb hby d9_93) (pc' := 94) rfl ?_
    refine w_ifL_lt X385 hx (hb hby d9_94) (pf := 97) (pt := 100) rfl (by decide) (by decide) (fun hc94 => ?_) (fun hc94 => ?_)
    · have hz396 := Int64.lt_iff_toInt_lt.mp hc94
      refine w_aloadN X385 hx (hb hby d9_100) (pc' := 101) rfl rfl rfl ?_
      refine w_getF X385 hx hZ hown e385 f377 (hw _ (List.mem_of_getElem? (i := 19) rfl)) (hb hby d9_101) (pc' := 104) rfl (fun T386 X386 e386 => ?_)
      refine w_iload X386 hx (hb hby d9_104) (pc' := 106) rfl rfl ?_
      refine w_aloadN X386 hx (hb hby d9_106) (pc' := 107) rfl rfl rfl ?_
      refine w_getF X386 hx hZ hown e386 f377 (hw _ (List.mem_of_getElem? (i := 19) rfl)) (hb hby d9_107) (pc' := 110) rfl (fun T387 X387 e387 => ?_)
      refine w_iload X387 hx (hb hby d9_110) (pc' := 112) rfl rfl ?_
      refine w_laload X387 hx hZ e387 f380 (v := y1) (by decide) rfl (hb hby d9_112) (pc' := 113) rfl ?_
      refine w_lastore X387 hx hZ e387 f380 (by decide) (by show (0 : Nat) < rest.length + 1 + 1 + 1 + 1; omega) (hb hby d9_113) (pc' := 114) rfl (fun T388 h388 X388 e388 W388 V388 => ?_)
      have V388 : AJ Z h388 hp (y1 :: y1 :: y2 :: y3 :: rest) := V388
      have KP388 := KP376.wr W388 (Or.inl (by simp))
      have N388 := Fr.snoc X388 N376 g_hp
      have zn388 : n0 ≤ h388.size := by rw [W388.size]; exact zn376
      refine w_iload X388 hx (hb hby d9_114) (pc' := 116) rfl rfl ?_
      refine w_istore (Ls' := #[.val (.ref ob), .val (.long y0), .second, .val (.long y3), .second, .val (.int (1 : Int32)), .val (.int (1 : Int32))]) X388 hx (hb hby d9_116) (pc' := 118) rfl rfl ?_
      refine w_goto X388 hx (hb hby d9_118) (pc' := 30) (by decide) (by decide) ?_
      refine w_iconst (v := 2) X388 hx (hb hby d9_30) (pc' := 31) rfl rfl ?_
      refine w_iload X388 hx (hb hby d9_31) (pc' := 33) rfl rfl ?_
      refine w_imul X388 hx (hb hby d9_33) (pc' := 34) rfl ?_
      rw [show ((2 : Int32) * (1 : Int32)) = (2 : Int32) from by decide]
      refine w_iconst (v := 1) X388 hx (hb hby d9_34) (pc' := 35) rfl rfl ?_
      refine w_iadd X388 hx (hb hby d9_35) (pc' := 36) rfl ?_
      rw [show ((2 : Int32) + (1 : Int32)) = (3 : Int32) from by decide]
      refine w_aloadN X388 hx (hb hby d9_36) (pc' := 37) rfl rfl rfl ?_
      have f389 := F376.other W388 (Or.inl (Ne.symm nho))
      refine w_getF X388 hx hZ hown e388 f389 (hw _ (List.mem_of_getElem? (i := 30) rfl)) (hb hby d9_37) (pc' := 40) rfl (fun T390 X390 e390 => ?_)
      have hf40 : ¬ ((3 : Int32) < (3 : Int32)) := (by decide)
      refine w_icmp_ge X390 hx (hb hby d9_40) (pf := 43) (pt := 121) rfl (by decide) (by decide) (fun hc40 => ?_) (fun hc => absurd hc hf40)
      refine w_aloadN X390 hx (hb hby d9_121) (pc' := 122) rfl rfl rfl ?_
      have f391 := f377.other W388 (Or.inl (Ne.symm nho))
      refine w_getF X390 hx hZ hown e390 f391 (hw _ (List.mem_of_getElem? (i := 19) rfl)) (hb hby d9_122) (pc' := 125) rfl (fun T392 X392 e392 => ?_)
      refine w_iload X392 hx (hb hby d9_125) (pc' := 127) rfl rfl ?_
      refine w_lloadN X392 hx (hb hby d9_127) (pc' := 128) rfl rfl ?_
      refine w_lastore X392 hx hZ e392 V388 (by decide) (by show (1 : Nat) < rest.length + 1 + 1 + 1 + 1; omega) (hb hby d9_128) (pc' := 129) rfl (fun T393 h393 X393 e393 W393 V393 => ?_)
      have V393 : AJ Z h393 hp (y1 :: y3 :: y2 :: y3 :: rest) := V393
      have KP393 := KP388.wr W393 (Or.inl (by simp))
      have N393 := Fr.snoc X393 N388 g_hp
      have zn393 : n0 ≤ h393.size := by rw [W393.size]; exact zn388
      refine w_lloadN X393 hx (hb hby d9_129) (pc' := 130) rfl rfl ?_
      have f394 := f391.other W393 (Or.inl (Ne.symm nho))
      have f395 := f389.other W393 (Or.inl (Ne.symm nho))
      exact w_retJ X393 hx hret hlk (hb hby d9_130) (by decide) (by decide) (by rw [e393]; exact ⟨rfl, N393, KP393, y1, y3, y2, (y3 :: rest), f394, f395, V393, (by omega), (by omega), (fun f => by omega)⟩)
    · have hz401 := mt Int64.lt_iff_toInt_lt.mpr hc94
      refine w_goto X385 hx (hb hby d9_97) (pc' := 121) (by decide) (by decide) ?_
      refine w_aloadN X385 hx (hb hby d9_121) (pc' := 122) rfl rfl rfl ?_
      refine w_getF X385 hx hZ hown e385 f377 (hw _ (List.mem_of_getElem? (i := 19) rfl)) (hb hby d9_122) (pc' := 125) rfl (fun T397 X397 e397 => ?_)
      refine w_iload X397 hx (hb hby d9_125) (pc' := 127) rfl rfl ?_
      refine w_lloadN X397 hx (hb hby d9_127) (pc' := 128) rfl rfl ?_
      refine w_lastore X397 hx hZ e397 f380 (by decide) (by show (0 : Nat) < rest.length + 1 + 1 + 1 + 1; omega) (hb hby d9_128) (pc' := 129) rfl (fun T398 h398 X398 e398 W398 V398 => ?_)
      have V398 : AJ Z h398 hp (y3 :: y1 :: y2 :: y3 :: rest) := V398
      have KP398 := KP376.wr W398 (Or.inl (by simp))
      have N398 := Fr.snoc X398 N376 g_hp
      have zn398 : n0 ≤ h398.size := by rw [W398.size]; exact zn376
      refine w_lloadN X398 hx (hb hby d9_129) (pc' := 130) rfl rfl ?_
      have f399 := f377.other W398 (Or.inl (Ne.symm nho))
      have f400 := F376.other W398 (Or.inl (Ne.symm nho))
      exact w_retJ X398 hx hret hlk (hb hby d9_130) (by decide) (by decide) (by rw [e398]; exact ⟨rfl, N398, KP398, y3, y1, y2, (y3 :: rest), f399, f400, V398, (by omega), (by omega), (fun f => by omega)⟩)
  · have hz420 := Int64.lt_iff_toInt_lt.mp hc79
    refine w_iinc (Ls' := #[.val (.ref ob), .val (.long y0), .second, .val (.long y3), .second, .val (.int (0 : Int32)), .val (.int ((1 : Int32) + (1 : Int32)))]) (w := (1 : Int32)) X384 hx (hb hby d9_82) (pc' := 85) rfl rfl rfl rfl ?_
    rw [show ((1 : Int32) + (1 : Int32)) = (2 : Int32) from by decide]
    refine w_aloadN X384 hx (hb hby d9_85) (pc' := 86) rfl rfl rfl ?_
    refine w_getF X384 hx hZ hown e384 f377 (hw _ (List.mem_of_getElem? (i := 19) rfl)) (hb hby d9_86) (pc' := 89) rfl (fun T403 X403 e403 => ?_)
    refine w_iload X403 hx (hb hby d9_89) (pc' := 91) rfl rfl ?_
    refine w_laload X403 hx hZ e403 f380 (v := y2) (by decide) rfl (hb hby d9_91) (pc' := 92) rfl ?_
    refine w_lloadN X403 hx (hb hby d9_92) (pc' := 93) rfl rfl ?_
    refine w_lcmp X403 hx (hb hby d9_93) (pc' := 94) rfl ?_
    refine w_ifL_lt X403 hx (hb hby d9_94) (pf := 97) (pt := 100) rfl (by decide) (by decide) (fun hc94 => ?_) (fun hc94 => ?_)
    · have hz414 := Int64.lt_iff_toInt_lt.mp hc94
      refine w_aloadN X403 hx (hb hby d9_100) (pc' := 101) rfl rfl rfl ?_
      refine w_getF X403 hx hZ hown e403 f377 (hw _ (List.mem_of_getElem? (i := 19) rfl)) (hb hby d9_101) (pc' := 104) rfl (fun T404 X404 e404 => ?_)
      refine w_iload X404 hx (hb hby d9_104) (pc' := 106) rfl rfl ?_
      refine w_aloadN X404 hx (hb hby d9_106) (pc' := 107) rfl rfl rfl ?_
      refine w_getF X404 hx hZ hown e404 f377 (hw _ (List.mem_of_getElem? (i := 19) rfl)) (hb hby d9_107) (pc' := 110) rfl (fun T405 X405 e405 => ?_)
      refine w_iload X405 hx (hb hby d9_110) (pc' := 112) rfl rfl ?_
      refine w_laload X405 hx hZ e405 f380 (v := y2) (by decide) rfl (hb hby d9_112) (pc' := 113) rfl ?_
      refine w_lastore X405 hx hZ e405 f380 (by decide) (by show (0 : Nat) < rest.length + 1 + 1 + 1 + 1; omega) (hb hby d9_113) (pc' := 114) rfl (fun T406 h406 X406 e406 W406 V406 => ?_)
      have V406 : AJ Z h406 hp (y2 :: y1 :: y2 :: y3 :: rest) := V406
      have KP406 := KP376.wr W406 (Or.inl (by simp))
      have N406 := Fr.snoc X406 N376 g_hp
      have zn406 : n0 ≤ h406.size := by rw [W406.size]; exact zn376
      refine w_iload X406 hx (hb hby d9_114) (pc' := 116) rfl rfl ?_
      refine w_istore (Ls' := #[.val (.ref ob), .val (.long y0), .second, .val (.long y3), .second, .val (.int (2 : Int32)), .val (.int (2 : Int32))]) X406 hx (hb hby d9_116) (pc' := 118) rfl rfl ?_
      refine w_goto X406 hx (hb hby d9_118) (pc' := 30) (by decide) (by decide) ?_
      refine w_iconst (v := 2) X406 hx (hb hby d9_30) (pc' := 31) rfl rfl ?_
      refine w_iload X406 hx (hb hby d9_31) (pc' := 33) rfl rfl ?_
      refine w_imul X406 hx (hb hby d9_33) (pc' := 34) rfl ?_
      rw [show ((2 : Int32) * (2 : Int32)) = (4 : Int32) from by decide]
      refine w_iconst (v := 1) X406 hx (hb hby d9_34) (pc' := 35) rfl rfl ?_
      refine w_iadd X406 hx (hb hby d9_35) (pc' := 36) rfl ?_
      rw [show ((4 : Int32) + (1 : Int32)) = (5 : Int32) from by decide]
      refine w_aloadN X406 hx (hb hby d9_36) (pc' := 37) rfl rfl rfl ?_
      have f407 := F376.other W406 (Or.inl (Ne.symm nho))
      refine w_getF X406 hx hZ hown e406 f407 (hw _ (List.mem_of_getElem? (i := 30) rfl)) (hb hby d9_37) (pc' := 40) rfl (fun T408 X408 e408 => ?_)
      have hf40 : ¬ ((5 : Int32) < (3 : Int32)) := (by decide)
      refine w_icmp_ge X408 hx (hb hby d9_40) (pf := 43) (pt := 121) rfl (by decide) (by decide) (fun hc40 => ?_) (fun hc => absurd hc hf40)
      refine w_aloadN X408 hx (hb hby d9_121) (pc' := 122) rfl rfl rfl ?_
      have f409 := f377.other W406 (Or.inl (Ne.symm nho))
      refine w_getF X408 hx hZ hown e408 f409 (hw _ (List.mem_of_getElem? (i := 19) rfl)) (hb hby d9_122) (pc' := 125) rfl (fun T410 X410 e410 => ?_)
      refine w_iload X410 hx (hb hby d9_125) (pc' := 127) rfl rfl ?_
      refine w_lloadN X410 hx (hb hby d9_127) (pc' := 128) rfl rfl ?_
      refine w_lastore X410 hx hZ e410 V406 (by decide) (by show (2 : Nat) < rest.length + 1 + 1 + 1 + 1; omega) (hb hby d9_128) (pc' := 129) rfl (fun T411 h411 X411 e411 W411 V411 => ?_)
      have V411 : AJ Z h411 hp (y2 :: y1 :: y3 :: y3 :: rest) := V411
      have KP411 := KP406.wr W411 (Or.inl (by simp))
      have N411 := Fr.snoc X411 N406 g_hp
      have zn411 : n0 ≤ h411.size := by rw [W411.size]; exact zn406
      refine w_lloadN X411 hx (hb hby d9_129) (pc' := 130) rfl rfl ?_
      have f412 := f409.other W411 (Or.inl (Ne.symm nho))
      have f413 := f407.other W411 (Or.inl (Ne.symm nho))
      exact w_retJ X411 hx hret hlk (hb hby d9_130) (by decide) (by decide) (by rw [e411]; exact ⟨rfl, N411, KP411, y2, y1, y3, (y3 :: rest), f412, f413, V411, (by omega), (by omega), (fun f => by omega)⟩)
    · have hz419 := mt Int64.lt_iff_toInt_lt.mpr hc94
      refine w_goto X403 hx (hb hby d9_97) (pc' := 121) (by decide) (by decide) ?_
      refine w_aloadN X403 hx (hb hby d9_121) (pc' := 122) rfl rfl rfl ?_
      refine w_getF X403 hx hZ hown e403 f377 (hw _ (List.mem_of_getElem? (i := 19) rfl)) (hb hby d9_122) (pc' := 125) rfl (fun T415 X415 e415 => ?_)
      refine w_iload X415 hx (hb hby d9_125) (pc' := 127) rfl rfl ?_
      refine w_lloadN X415 hx (hb hby d9_127) (pc' := 128) rfl rfl ?_
      refine w_lastore X415 hx hZ e415 f380 (by decide) (by show (0 : Nat) < rest.length + 1 + 1 + 1 + 1; omega) (hb hby d9_128) (pc' := 129) rfl (fun T416 h416 X416 e416 W416 V416 => ?_)
      have V416 : AJ Z h416 hp (y3 :: y1 :: y2 :: y3 :: rest) := V416
      have KP416 := KP376.wr W416 (Or.inl (by simp))
      have N416 := Fr.snoc X416 N376 g_hp
      have zn416 : n0 ≤ h416.size := by rw [W416.size]; exact zn376
      refine w_lloadN X416 hx (hb hby d9_129) (pc' := 130) rfl rfl ?_
      have f417 := f377.other W416 (Or.inl (Ne.symm nho))
      have f418 := F376.other W416 (Or.inl (Ne.symm nho))
      exact w_retJ X416 hx hret hlk (hb hby d9_130) (by decide) (by decide) (by rw [e416]; exact ⟨rfl, N416, KP416, y3, y1, y2, (y3 :: rest), f417, f418, V416, (by omega), (by omega), (fun f => by omega)⟩)
set_option maxRecDepth 65536 in
set_option maxHeartbeats 40000000 in
theorem rm9_5 (l : Launch) (Z : State) (a0 : Array Value) (hw : ∀ d ∈ tables_1, d.before a0 Z = true) (ob : Addr) (h0 : Heap) (n0 : Nat) (Z0 : n0 ≤ h0.size) (hp : Addr) (y0 : Int64) (y1 : Int64) (y2 : Int64) (y3 : Int64) (y4 : Int64) (rest : List Int64) (E_ob : Exa Z h0 ob "com/example/facet/facet/regex/MinQueue") (g_ob : n0 ≤ ob) (g_hp : n0 ≤ hp) (F_heap : Fld Z h0 ob "com/example/facet/facet/regex/MinQueue" "heap" "[J" (.ref hp)) (F_size : Fld Z h0 ob "com/example/facet/facet/regex/MinQueue" "size" "I" (.int (5 : Int32))) (V_hp : AJ Z h0 hp (y0 :: y1 :: y2 :: y3 :: y4 :: rest)) (nho : hp ≠ ob) (hO : y0.toInt ≤ y1.toInt ∧ y0.toInt ≤ y2.toInt ∧ y1.toInt ≤ y3.toInt ∧ y1.toInt ≤ y4.toInt) :
    Con l Z (⟨"com/example/facet/facet/regex/MinQueue", "poll", "()J"⟩ : MethodName) prog_33_method_4_code 7 (some .long) ({ frames := 0, cells := 0, slots := 0, locals := 0 } : Room) #[(.ref ob)] h0 (fun v h L => v = some (.long y0) ∧ Fr n0 L ∧ Keep h0 h [ob, hp] ∧ ∃ (k0 k1 k2 k3 : Int64) (rs : List Int64), Fld Z h ob "com/example/facet/facet/regex/MinQueue" "heap" "[J" (.ref hp) ∧ Fld Z h ob "com/example/facet/facet/regex/MinQueue" "size" "I" (.int (4 : Int32)) ∧ AJ Z h hp (k0 :: k1 :: k2 :: k3 :: rs) ∧ (k0.toInt ≤ k1.toInt ∧ k0.toInt ≤ k2.toInt ∧ k1.toInt ≤ k3.toInt) ∧ (y0.toInt ≤ k0.toInt) ∧ (∀ f : Int64 → Nat, f y0 + f k0 + f k1 + f k2 + f k3 = f y0 + f y1 + f y2 + f y3 + f y4)) := by
  refine Con.of (plainFor_of_name (by first | (simp [plainName, overriddenIn]; done) | decide +kernel)) ?_
  intro p e s m below meth c T X hx hZ hby hml hown hnm hret hlk e0
  rw [ef_9]
  have N0 := Fr.nil n0
  have KP0 := Keep.refl h0 [ob, hp]
  show Go p e below s 0 0 (fun v h L => v = some (.long y0) ∧ Fr n0 L ∧ Keep h0 h [ob, hp] ∧ ∃ (k0 k1 k2 k3 : Int64) (rs : List Int64), Fld Z h ob "com/example/facet/facet/regex/MinQueue" "heap" "[J" (.ref hp) ∧ Fld Z h ob "com/example/facet/facet/regex/MinQueue" "size" "I" (.int (4 : Int32)) ∧ AJ Z h hp (k0 :: k1 :: k2 :: k3 :: rs) ∧ (k0.toInt ≤ k1.toInt ∧ k0.toInt ≤ k2.toInt ∧ k1.toInt ≤ k3.toInt) ∧ (y0.toInt ≤ k0.toInt) ∧ (∀ f : Int64 → Nat, f y0 + f k0 + f k1 + f k2 + f k3 = f y0 + f y1 + f y2 + f y3 + f y4)) T (mkF m 0 #[.val (.ref ob), .unset, .unset, .unset, .unset, .unset, .unset] [])
  refine w_aloadN X hx (hb hby d9_0) (pc' := 1) rfl rfl rfl ?_
  refine w_getF X hx hZ hown e0 F_heap (hw _ (List.mem_of_getElem? (i := 19) rfl)) (hb hby d9_1) (pc' := 4) rfl (fun T421 X421 e421 => ?_)
  refine w_iconst (v := 0) X421 hx (hb hby d9_4) (pc' := 5) rfl rfl ?_
  refine w_laload X421 hx hZ e421 V_hp (v := y0) (by decide) rfl (hb hby d9_5) (pc' := 6) rfl ?_
  refine w_lstoreN (Ls' := #[.val (.ref ob), .val (.long y0), .second, .unset, .unset, .unset, .unset]) X421 hx (hb hby d9_6) (pc' := 7) rfl rfl ?_
  refine w_aloadN X421 hx (hb hby d9_7) (pc' := 8) rfl rfl rfl ?_
  refine w_dup X421 hx (hb hby d9_8) (pc' := 9) rfl rfl ?_
  refine w_getF X421 hx hZ hown e421 F_size (hw _ (List.mem_of_getElem? (i := 30) rfl)) (hb hby d9_9) (pc' := 12) rfl (fun T422 X422 e422 => ?_)
  refine w_iconst (v := 1) X422 hx (hb hby d9_12) (pc' := 13) rfl rfl ?_
  refine w_isub X422 hx (hb hby d9_13) (pc' := 14) rfl ?_
  rw [show ((5 : Int32) - (1 : Int32)) = (4 : Int32) from by decide]
  refine w_putF X422 hx hZ hown e422 F_size E_ob (hw _ (List.mem_of_getElem? (i := 30) rfl)) (Or.inl (hw _ (List.mem_of_getElem? (i := 31) rfl))) (hw _ (List.mem_of_getElem? (i := 7) rfl)) (ty := .int) (by decide) rfl rfl (hb hby d9_14) (pc' := 17) rfl (fun T423 h423 X423 e423 W423 => ?_)
  have F423 := F_size.same W423
  have KP423 := KP0.wr W423 (Or.inl (by simp))
  have N423 := Fr.snoc X423 N0 g_ob
  have zn423 : n0 ≤ h423.size := by rw [W423.size]; exact Z0
  refine w_aloadN X423 hx (hb hby d9_17) (pc' := 18) rfl rfl rfl ?_
  have f424 := F_heap.other W423 (Or.inr (slot_ne (Or.inl (hw _ (List.mem_of_getElem? (i := 20) rfl))) (Or.inl (hw _ (List.mem_of_getElem? (i := 31) rfl))) (by decide) (t := (.array .long)) (t' := .int) (by decide) (by decide)))
  refine w_getF X423 hx hZ hown e423 f424 (hw _ (List.mem_of_getElem? (i := 19) rfl)) (hb hby d9_18) (pc' := 21) rfl (fun T425 X425 e425 => ?_)
  refine w_aloadN X425 hx (hb hby d9_21) (pc' := 22) rfl rfl rfl ?_
  refine w_getF X425 hx hZ hown e425 F423 (hw _ (List.mem_of_getElem? (i := 30) rfl)) (hb hby d9_22) (pc' := 25) rfl (fun T426 X426 e426 => ?_)
  have f427 := V_hp.other W423 nho
  refine w_laload X426 hx hZ e426 f427 (v := y4) (by decide) rfl (hb hby d9_25) (pc' := 26) rfl ?_
  refine w_lstoreN (Ls' := #[.val (.ref ob), .val (.long y0), .second, .val (.long y4), .second, .unset, .unset]) X426 hx (hb hby d9_26) (pc' := 27) rfl rfl ?_
  refine w_iconst (v := 0) X426 hx (hb hby d9_27) (pc' := 28) rfl rfl ?_
  refine w_istore (Ls' := #[.val (.ref ob), .val (.long y0), .second, .val (.long y4), .second, .val (.int (0 : Int32)), .unset]) X426 hx (hb hby d9_28) (pc' := 30) rfl rfl ?_
  refine w_iconst (v := 2) X426 hx (hb hby d9_30) (pc' := 31) rfl rfl ?_
  refine w_iload X426 hx (hb hby d9_31) (pc' := 33) rfl rfl ?_
  refine w_imul X426 hx (hb hby d9_33) (pc' := 34) rfl ?_
  rw [show ((2 : Int32) * (0 : Int32)) = (0 : Int32) from by decide]
  refine w_iconst (v := 1) X426 hx (hb hby d9_34) (pc' := 35) rfl rfl ?_
  refine w_iadd X426 hx (hb hby d9_35) (pc' := 36) rfl ?_
  rw [show ((0 : Int32) + (1 : Int32)) = (1 : Int32) from by decide]
  refine w_aloadN X426 hx (hb hby d9_36) (pc' := 37) rfl rfl rfl ?_
  refine w_getF X426 hx hZ hown e426 F423 (hw _ (List.mem_of_getElem? (i := 30) rfl)) (hb hby d9_37) (pc' := 40) rfl (fun T428 X428 e428 => ?_)
  have hf40 : (1 : Int32) < (4 : Int32) := (by decide)
  refine w_icmp_ge X428 hx (hb hby d9_40) (pf := 43) (pt := 121) rfl (by decide) (by decide) (fun hc => absurd hf40 hc) (fun hc40 => ?_)
  refine w_iconst (v := 2) X428 hx (hb hby d9_43) (pc' := 44) rfl rfl ?_
  refine w_iload X428 hx (hb hby d9_44) (pc' := 46) rfl rfl ?_
  refine w_imul X428 hx (hb hby d9_46) (pc' := 47) rfl ?_
  rw [show ((2 : Int32) * (0 : Int32)) = (0 : Int32) from by decide]
  refine w_iconst (v := 1) X428 hx (hb hby d9_47) (pc' := 48) rfl rfl ?_
  refine w_iadd X428 hx (hb hby d9_48) (pc' := 49) rfl ?_
  rw [show ((0 : Int32) + (1 : Int32)) = (1 : Int32) from by decide]
  refine w_istore (Ls' := #[.val (.ref ob), .val (.long y0), .second, .val (.long y4), .second, .val (.int (0 : Int32)), .val (.int (1 : Int32))]) X428 hx (hb hby d9_49) (pc' := 51) rfl rfl ?_
  refine w_iload X428 hx (hb hby d9_51) (pc' := 53) rfl rfl ?_
  refine w_iconst (v := 1) X428 hx (hb hby d9_53) (pc' := 54) rfl rfl ?_
  refine w_iadd X428 hx (hb hby d9_54) (pc' := 55) rfl ?_
  rw [show ((1 : Int32) + (1 : Int32)) = (2 : Int32) from by decide]
  refine w_aloadN X428 hx (hb hby d9_55) (pc' := 56) rfl rfl rfl ?_
  refine w_getF X428 hx hZ hown e428 F423 (hw _ (List.mem_of_getElem? (i := 30) rfl)) (hb hby d9_56) (pc' := 59) rfl (fun T429 X429 e429 => ?_)
  have hf59 : (2 : Int32) < (4 : Int32) := (by decide)
  refine w_icmp_ge X429 hx (hb hby d9_59) (pf := 62) (pt := 85) rfl (by decide) (by decide) (fun hc => absurd hf59 hc) (fun hc59 => ?_)
  refine w_aloadN X429 hx (hb hby d9_62) (pc' := 63) rfl rfl rfl ?_
  refine w_getF X429 hx hZ hown e429 f424 (hw _ (List.mem_of_getElem? (i := 19) rfl)) (hb hby d9_63) (pc' := 66) rfl (fun T430 X430 e430 => ?_)
  refine w_iload X430 hx (hb hby d9_66) (pc' := 68) rfl rfl ?_
  refine w_iconst (v := 1) X430 hx (hb hby d9_68) (pc' := 69) rfl rfl ?_
  refine w_iadd X430 hx (hb hby d9_69) (pc' := 70) rfl ?_
  rw [show ((1 : Int32) + (1 : Int32)) = (2 : Int32) from by decide]
  refine w_laload X430 hx hZ e430 f427 (v := y2) (by decide) rfl (hb hby d9_70) (pc' := 71) rfl ?_
  refine w_aloadN X430 hx (hb hby d9_71) (pc' := 72) rfl rfl rfl ?_
  refine w_getF X430 hx hZ hown e430 f424 (hw _ (List.mem_of_getElem? (i := 19) rfl)) (hb hby d9_72) (pc' := 75) rfl (fun T431 X431 e431 => ?_)
  refine w_iload X431 hx (hb hby d9_75) (pc' := 77) rfl rfl ?_
  refine w_laload X431 hx hZ e431 f427 (v := y1) (by decide) rfl (hb hby d9_77) (pc' := 78) rfl ?_
  refine w_lcmp X431 hx (hb hby d9_78) (pc' := 79) rfl ?_
  refine w_ifL_ge X431 hx (hb hby d9_79) (pf := 82) (pt := 85) rfl (by decide) (by decide) (fun hc79 => ?_) (fun hc79 => ?_)
  · have hz463 := mt Int64.lt_iff_toInt_lt.mpr hc79
    refine w_aloadN X431 hx (hb hby d9_85) (pc' := 86) rfl rfl rfl ?_
    refine w_getF X431 hx hZ hown e431 f424 (hw _ (List.mem_of_getElem? (i := 19) rfl)) (hb hby d9_86) (pc' := 89) rfl (fun T432 X432 e432 => ?_)
    refine w_iload X432 hx (hb hby d9_89) (pc' := 91) rfl rfl ?_
    refine w_laload X432 hx hZ e432 f427 (v := y1) (by decide) rfl (hb hby d9_91) (pc' := 92) rfl ?_
    refine w_lloadN X432 hx (hb hby d9_92) (pc' := 93) rfl rfl ?_
    refine w_lcmp X432 hx (hb hby d9_93) (pc' := 94) rfl ?_
    refine w_ifL_lt X432 hx (hb hby d9_94) (pf := 97) (pt := 100) rfl (by decide) (by decide) (fun hc94 => ?_) (fun hc94 => ?_)
    · have hz457 := Int64.lt_iff_toInt_lt.mp hc94
      refine w_aloadN X432 hx (hb hby d9_100) (pc' := 101) rfl rfl rfl ?_
      refine w_getF X432 hx hZ hown e432 f424 (hw _ (List.mem_of_getElem? (i := 19) rfl)) (hb hby d9_101) (pc' := 104) rfl (fun T433 X433 e433 => ?_)
      refine w_iload X433 hx (hb hby d9_104) (pc' := 106) rfl rfl ?_
      refine w_aloadN X433 hx (hb hby d9_106) (pc' := 107) rfl rfl rfl ?_
      refine w_getF X433 hx hZ hown e433 f424 (hw _ (List.mem_of_getElem? (i := 19) rfl)) (hb hby d9_107) (pc' := 110) rfl (fun T434 X434 e434 => ?_)
      refine w_iload X434 hx (hb hby d9_110) (pc' := 112) rfl rfl ?_
      refine w_laload X434 hx hZ e434 f427 (v := y1) (by decide) rfl (hb hby d9_112) (pc' := 113) rfl ?_
      refine w_lastore X434 hx hZ e434 f427 (by decide) (by show (0 : Nat) < rest.length + 1 + 1 + 1 + 1 + 1; omega) (hb hby d9_113) (pc' := 114) rfl (fun T435 h435 X435 e435 W435 V435 => ?_)
      have V435 : AJ Z h435 hp (y1 :: y1 :: y2 :: y3 :: y4 :: rest) := V435
      have KP435 := KP423.wr W435 (Or.inl (by simp))
      have N435 := Fr.snoc X435 N423 g_hp
      have zn435 : n0 ≤ h435.size := by rw [W435.size]; exact zn423
      refine w_iload X435 hx (hb hby d9_114) (pc' := 116) rfl rfl ?_
      refine w_istore (Ls' := #[.val (.ref ob), .val (.long y0), .second, .val (.long y4), .second, .val (.int (1 : Int32)), .val (.int (1 : Int32))]) X435 hx (hb hby d9_116) (pc' := 118) rfl rfl ?_
      refine w_goto X435 hx (hb hby d9_118) (pc' := 30) (by decide) (by decide) ?_
      refine w_iconst (v := 2) X435 hx (hb hby d9_30) (pc' := 31) rfl rfl ?_
      refine w_iload X435 hx (hb hby d9_31) (pc' := 33) rfl rfl ?_
      refine w_imul X435 hx (hb hby d9_33) (pc' := 34) rfl ?_
      rw [show ((2 : Int32) * (1 : Int32)) = (2 : Int32) from by decide]
      refine w_iconst (v := 1) X435 hx (hb hby d9_34) (pc' := 35) rfl rfl ?_
      refine w_iadd X435 hx (hb hby d9_35) (pc' := 36) rfl ?_
      rw [show ((2 : Int32) + (1 : Int32)) = (3 : Int32) from by decide]
      refine w_aloadN X435 hx (hb hby d9_36) (pc' := 37) rfl rfl rfl ?_
      have f436 := F423.other W435 (Or.inl (Ne.symm nho))
      refine w_getF X435 hx hZ hown e435 f436 (hw _ (List.mem_of_getElem? (i := 30) rfl)) (hb hby d9_37) (pc' := 40) rfl (fun T437 X437 e437 => ?_)
      have hf40 : (3 : Int32) < (4 : Int32) := (by decide)
      refine w_icmp_ge X437 hx (hb hby d9_40) (pf := 43) (pt := 121) rfl (by decide) (by decide) (fun hc => absurd hf40 hc) (fun hc40 => ?_)
      refine w_iconst (v := 2) X437 hx (hb hby d9_43) (pc' := 44) rfl rfl ?_
      refine w_iload X437 hx (hb hby d9_44) (pc' := 46) rfl rfl ?_
      refine w_imul X437 hx (hb hby d9_46) (pc' := 47) rfl ?_
      rw [show ((2 : Int32) * (1 : Int32)) = (2 : Int32) from by decide]
      refine w_iconst (v := 1) X437 hx (hb hby d9_47) (pc' := 48) rfl rfl ?_
      refine w_iadd X437 hx (hb hby d9_48) (pc' := 49) rfl ?_
      rw [show ((2 : Int32) + (1 : Int32)) = (3 : Int32) from by decide]
      refine w_istore (Ls' := #[.val (.ref ob), .val (.long y0), .second, .val (.long y4), .second, .val (.int (1 : Int32)), .val (.int (3 : Int32))]) X437 hx (hb hby d9_49) (pc' := 51) rfl rfl ?_
      refine w_iload X437 hx (hb hby d9_51) (pc' := 53) rfl rfl ?_
      refine w_iconst (v := 1) X437 hx (hb hby d9_53) (pc' := 54) rfl rfl ?_
      refine w_iadd X437 hx (hb hby d9_54) (pc' := 55) rfl ?_
      rw [show ((3 : Int32) + (1 : Int32)) = (4 : Int32) from by decide]
      refine w_aloadN X437 hx (hb hby d9_55) (pc' := 56) rfl rfl rfl ?_
      refine w_getF X437 hx hZ hown e437 f436 (hw _ (List.mem_of_getElem? (i := 30) rfl)) (hb hby d9_56) (pc' := 59) rfl (fun T438 X438 e438 => ?_)
      have hf59 : ¬ ((4 : Int32) < (4 : Int32)) := (by decide)
      refine w_icmp_ge X438 hx (hb hby d9_59) (pf := 62) (pt := 85) rfl (by decide) (by decide) (fun hc59 => ?_) (fun hc => absurd hc hf59)
      refine w_aloadN X438 hx (hb hby d9_85) (pc' := 86) rfl rfl rfl ?_
      have f439 := f424.other W435 (Or.inl (Ne.symm nho))
      refine w_getF X438 hx hZ hown e438 f439 (hw _ (List.mem_of_getElem? (i := 19) rfl)) (hb hby d9_86) (pc' := 89) rfl (fun T440 X440 e440 => ?_)
      refine w_iload X440 hx (hb hby d9_89) (pc' := 91) rfl rfl ?_
      refine w_laload X440 hx hZ e440 V435 (v := y3) (by decide) rfl (hb hby d9_91) (pc' := 92) rfl ?_
      refine w_lloadN X440 hx (hb hby d9_92) (pc' := 93) rfl rfl ?_
      refine w_lcmp X440 hx (hb hby d9_93) (pc' := 94) rfl ?_
      refine w_ifL_lt X440 hx (hb hby d9_94) (pf := 97) (pt := 100) rfl (by decide) (by decide) (fun hc94 => ?_) (fun hc94 => ?_)
      · have hz451 := Int64.lt_iff_toInt_lt.mp hc94
        refine w_aloadN X440 hx (hb hby d9_100) (pc' := 101) rfl rfl rfl ?_
        refine w_getF X440 hx hZ hown e440 f439 (hw _ (List.mem_of_getElem? (i := 19) rfl)) (hb hby d9_101) (pc' := 104) rfl (fun T441 X441 e441 => ?_)
        refine w_iload X441 hx (hb hby d9_104) (pc' := 106) rfl rfl ?_
        refine w_aloadN X441 hx (hb hby d9_106) (pc' := 107) rfl rfl rfl ?_
        refine w_getF X441 hx hZ hown e441 f439 (hw _ (List.mem_of_getElem? (i := 19) rfl)) (hb hby d9_107) (pc' := 110) rfl (fun T442 X442 e442 => ?_)
        refine w_iload X442 hx (hb hby d9_110) (pc' := 112) rfl rfl ?_
        refine w_laload X442 hx hZ e442 V435 (v := y3) (by decide) rfl (hb hby d9_112) (pc' := 113) rfl ?_
        refine w_lastore X442 hx hZ e442 V435 (by decide) (by show (1 : Nat) < rest.length + 1 + 1 + 1 + 1 + 1; omega) (hb hby d9_113) (pc' := 114) rfl (fun T443 h443 X443 e443 W443 V443 => ?_)
        have V443 : AJ Z h443 hp (y1 :: y3 :: y2 :: y3 :: y4 :: rest) := V443
        have KP443 := KP435.wr W443 (Or.inl (by simp))
        have N443 := Fr.snoc X443 N435 g_hp
        have zn443 : n0 ≤ h443.size := by rw [W443.size]; exact zn435
        refine w_iload X443 hx (hb hby d9_114) (pc' := 116) rfl rfl ?_
        refine w_istore (Ls' := #[.val (.ref ob), .val (.long y0), .second, .val (.long y4), .second, .val (.int (3 : Int32)), .val (.int (3 : Int32))]) X443 hx (hb hby d9_116) (pc' := 118) rfl rfl ?_
        refine w_goto X443 hx (hb hby d9_118) (pc' := 30) (by decide) (by decide) ?_
        refine w_iconst (v := 2) X443 hx (hb hby d9_30) (pc' := 31) rfl rfl ?_
        refine w_iload X443 hx (hb hby d9_31) (pc' := 33) rfl rfl ?_
        refine w_imul X443 hx (hb hby d9_33) (pc' := 34) rfl ?_
        rw [show ((2 : Int32) * (3 : Int32)) = (6 : Int32) from by decide]
        refine w_iconst (v := 1) X443 hx (hb hby d9_34) (pc' := 35) rfl rfl ?_
        refine w_iadd X443 hx (hb hby d9_35) (pc' := 36) rfl ?_
        rw [show ((6 : Int32) + (1 : Int32)) = (7 : Int32) from by decide]
        refine w_aloadN X443 hx (hb hby d9_36) (pc' := 37) rfl rfl rfl ?_
        have f444 := f436.other W443 (Or.inl (Ne.symm nho))
        refine w_getF X443 hx hZ hown e443 f444 (hw _ (List.mem_of_getElem? (i := 30) rfl)) (hb hby d9_37) (pc' := 40) rfl (fun T445 X445 e445 => ?_)
        have hf40 : ¬ ((7 : Int32) < (4 : Int32)) := (by decide)
        refine w_icmp_ge X445 hx (hb hby d9_40) (pf := 43) (pt := 121) rfl (by decide) (by decide) (fun hc40 => ?_) (fun hc => absurd hc hf40)
        refine w_aloadN X445 hx (hb hby d9_121) (pc' := 122) rfl rfl rfl ?_
        have f446 := f439.other W443 (Or.inl (Ne.symm nho))
        refine w_getF X445 hx hZ hown e445 f446 (hw _ (List.mem_of_getElem? (i := 19) rfl)) (hb hby d9_122) (pc' := 125) rfl (fun T447 X447 e447 => ?_)
        refine w_iload X447 hx (hb hby d9_125) (pc' := 127) rfl rfl ?_
        refine w_lloadN X447 hx (hb hby d9_127) (pc' := 128) rfl rfl ?_
        refine w_lastore X447 hx hZ e447 V443 (by decide) (by show (3 : Nat) < rest.length + 1 + 1 + 1 + 1 + 1; omega) (hb hby d9_128) (pc' := 129) rfl (fun T448 h448 X448 e448 W448 V448 => ?_)
        have V448 : AJ Z h448 hp (y1 :: y3 :: y2 :: y4 :: y4 :: rest) := V448
        have KP448 := KP443.wr W448 (Or.inl (by simp))
        have N448 := Fr.snoc X448 N443 g_hp
        have zn448 : n0 ≤ h448.size := by rw [W448.size]; exact zn443
        refine w_lloadN X448 hx (hb hby d9_129) (pc' := 130) rfl rfl ?_
        have f449 := f446.other W448 (Or.inl (Ne.symm nho))
        have f450 := f444.other W448 (Or.inl (Ne.symm nho))
        exact w_retJ X448 hx hret hlk (hb hby d9_130) (by decide) (by decide) (by rw [e448]; exact ⟨rfl, N448, KP448, y1, y3, y2, y4, (y4 :: rest), f449, f450, V448, (by omega), (by omega), (fun f => by omega)⟩)
      · have hz456 := mt Int64.lt_iff_toInt_lt.mpr hc94
        refine w_goto X440 hx (hb hby d9_97) (pc' := 121) (by decide) (by decide) ?_
        refine w_aloadN X440 hx (hb hby d9_121) (pc' := 122) rfl rfl rfl ?_
        refine w_getF X440 hx hZ hown e440 f439 (hw _ (List.mem_of_getElem? (i := 19) rfl)) (hb hby d9_122) (pc' := 125) rfl (fun T452 X452 e452 => ?_)
        refine w_iload X452 hx (hb hby d9_125) (pc' := 127) rfl rfl ?_
        refine w_lloadN X452 hx (hb hby d9_127) (pc' := 128) rfl rfl ?_
        refine w_lastore X452 hx hZ e452 V435 (by decide) (by show (1 : Nat) < rest.length + 1 + 1 + 1 + 1 + 1; omega) (hb hby d9_128) (pc' := 129) rfl (fun T453 h453 X453 e453 W453 V453 => ?_)
        have V453 : AJ Z h453 hp (y1 :: y4 :: y2 :: y3 :: y4 :: rest) := V453
        have KP453 := KP435.wr W453 (Or.inl (by simp))
        have N453 := Fr.snoc X453 N435 g_hp
        have zn453 : n0 ≤ h453.size := by rw [W453.size]; exact zn435
        refine w_lloadN X453 hx (hb hby d9_129) (pc' := 130) rfl rfl ?_
        have f454 := f439.other W453 (Or.inl (Ne.symm nho))
        have f455 := f436.other W453 (Or.inl (Ne.symm nho))
        exact w_retJ X453 hx hret hlk (hb hby d9_130) (by decide) (by decide) (by rw [e453]; exact ⟨rfl, N453, KP453, y1, y4, y2, y3, (y4 :: rest), f454, f455, V453, (by omega), (by omega), (fun f => by omega)⟩)
    · have hz462 := mt Int64.lt_iff_toInt_lt.mpr hc94
      refine w_goto X432 hx (hb hby d9_97) (pc' := 121) (by decide) (by decide) ?_
      refine w_aloadN X432 hx (hb hby d9_121) (pc' := 122) rfl rfl rfl ?_
      refine w_getF X432 hx hZ hown e432 f424 (hw _ (List.mem_of_getElem? (i := 19) rfl)) (hb hby d9_122) (pc' := 125) rfl (fun T458 X458 e458 => ?_)
      refine w_iload X458 hx (hb hby d9_125) (pc' := 127) rfl rfl ?_
      refine w_lloadN X458 hx (hb hby d9_127) (pc' := 128) rfl rfl ?_
      refine w_lastore X458 hx hZ e458 f427 (by decide) (by show (0 : Nat) < rest.length + 1 + 1 + 1 + 1 + 1; omega) (hb hby d9_128) (pc' := 129) rfl (fun T459 h459 X459 e459 W459 V459 => ?_)
      have V459 : AJ Z h459 hp (y4 :: y1 :: y2 :: y3 :: y4 :: rest) := V459
      have KP459 := KP423.wr W459 (Or.inl (by simp))
      have N459 := Fr.snoc X459 N423 g_hp
      have zn459 : n0 ≤ h459.size := by rw [W459.size]; exact zn423
      refine w_lloadN X459 hx (hb hby d9_129) (pc' := 130) rfl rfl ?_
      have f460 := f424.other W459 (Or.inl (Ne.symm nho))
      have f461 := F423.other W459 (Or.inl (Ne.symm nho))
      exact w_retJ X459 hx hret hlk (hb hby d9_130) (by decide) (by decide) (by rw [e459]; exact ⟨rfl, N459, KP459, y4, y1, y2, y3, (y4 :: rest), f460, f461, V459, (by omega), (by omega), (fun f => by omega)⟩)
  · have hz481 := Int64.lt_iff_toInt_lt.mp hc79
    refine w_iinc (Ls' := #[.val (.ref ob), .val (.long y0), .second, .val (.long y4), .second, .val (.int (0 : Int32)), .val (.int ((1 : Int32) + (1 : Int32)))]) (w := (1 : Int32)) X431 hx (hb hby d9_82) (pc' := 85) rfl rfl rfl rfl ?_
    rw [show ((1 : Int32) + (1 : Int32)) = (2 : Int32) from by decide]
    refine w_aloadN X431 hx (hb hby d9_85) (pc' := 86) rfl rfl rfl ?_
    refine w_getF X431 hx hZ hown e431 f424 (hw _ (List.mem_of_getElem? (i := 19) rfl)) (hb hby d9_86) (pc' := 89) rfl (fun T464 X464 e464 => ?_)
    refine w_iload X464 hx (hb hby d9_89) (pc' := 91) rfl rfl ?_
    refine w_laload X464 hx hZ e464 f427 (v := y2) (by decide) rfl (hb hby d9_91) (pc' := 92) rfl ?_
    refine w_lloadN X464 hx (hb hby d9_92) (pc' := 93) rfl rfl ?_
    refine w_lcmp X464 hx (hb hby d9_93) (pc' := 94) rfl ?_
    refine w_ifL_lt X464 hx (hb hby d9_94) (pf := 97) (pt := 100) rfl (by decide) (by decide) (fun hc94 => ?_) (fun hc94 => ?_)
    · have hz475 := Int64.lt_iff_toInt_lt.mp hc94
      refine w_aloadN X464 hx (hb hby d9_100) (pc' := 101) rfl rfl rfl ?_
      refine w_getF X464 hx hZ hown e464 f424 (hw _ (List.mem_of_getElem? (i := 19) rfl)) (hb hby d9_101) (pc' := 104) rfl (fun T465 X465 e465 => ?_)
      refine w_iload X465 hx (hb hby d9_104) (pc' := 106) rfl rfl ?_
      refine w_aloadN X465 hx (hb hby d9_106) (pc' := 107) rfl rfl rfl ?_
      refine w_getF X465 hx hZ hown e465 f424 (hw _ (List.mem_of_getElem? (i := 19) rfl)) (hb hby d9_107) (pc' := 110) rfl (fun T466 X466 e466 => ?_)
      refine w_iload X466 hx (hb hby d9_110) (pc' := 112) rfl rfl ?_
      refine w_laload X466 hx hZ e466 f427 (v := y2) (by decide) rfl (hb hby d9_112) (pc' := 113) rfl ?_
      refine w_lastore X466 hx hZ e466 f427 (by decide) (by show (0 : Nat) < rest.length + 1 + 1 + 1 + 1 + 1; omega) (hb hby d9_113) (pc' := 114) rfl (fun T467 h467 X467 e467 W467 V467 => ?_)
      have V467 : AJ Z h467 hp (y2 :: y1 :: y2 :: y3 :: y4 :: rest) := V467
      have KP467 := KP423.wr W467 (Or.inl (by simp))
      have N467 := Fr.snoc X467 N423 g_hp
      have zn467 : n0 ≤ h467.size := by rw [W467.size]; exact zn423
      refine w_iload X467 hx (hb hby d9_114) (pc' := 116) rfl rfl ?_
      refine w_istore (Ls' := #[.val (.ref ob), .val (.long y0), .second, .val (.long y4), .second, .val (.int (2 : Int32)), .val (.int (2 : Int32))]) X467 hx (hb hby d9_116) (pc' := 118) rfl rfl ?_
      refine w_goto X467 hx (hb hby d9_118) (pc' := 30) (by decide) (by decide) ?_
      refine w_iconst (v := 2) X467 hx (hb hby d9_30) (pc' := 31) rfl rfl ?_
      refine w_iload X467 hx (hb hby d9_31) (pc' := 33) rfl rfl ?_
      refine w_imul X467 hx (hb hby d9_33) (pc' := 34) rfl ?_
      rw [show ((2 : Int32) * (2 : Int32)) = (4 : Int32) from by decide]
      refine w_iconst (v := 1) X467 hx (hb hby d9_34) (pc' := 35) rfl rfl ?_
      refine w_iadd X467 hx (hb hby d9_35) (pc' := 36) rfl ?_
      rw [show ((4 : Int32) + (1 : Int32)) = (5 : Int32) from by decide]
      refine w_aloadN X467 hx (hb hby d9_36) (pc' := 37) rfl rfl rfl ?_
      have f468 := F423.other W467 (Or.inl (Ne.symm nho))
      refine w_getF X467 hx hZ hown e467 f468 (hw _ (List.mem_of_getElem? (i := 30) rfl)) (hb hby d9_37) (pc' := 40) rfl (fun T469 X469 e469 => ?_)
      have hf40 : ¬ ((5 : Int32) < (4 : Int32)) := (by decide)
      refine w_icmp_ge X469 hx (hb hby d9_40) (pf := 43) (pt := 121) rfl (by decide) (by decide) (fun hc40 => ?_) (fun hc => absurd hc hf40)
      refine w_aloadN X469 hx (hb hby d9_121) (pc' := 122) rfl rfl rfl ?_
      have f470 := f424.other W467 (Or.inl (Ne.symm nho))
      refine w_getF X469 hx hZ hown e469 f470 (hw _ (List.mem_of_getElem? (i := 19) rfl)) (hb hby d9_122) (pc' := 125) rfl (fun T471 X471 e471 => ?_)
      refine w_iload X471 hx (hb hby d9_125) (pc' := 127) rfl rfl ?_
      refine w_lloadN X471 hx (hb hby d9_127) (pc' := 128) rfl rfl ?_
      refine w_lastore X471 hx hZ e471 V467 (by decide) (by show (2 : Nat) < rest.length + 1 + 1 + 1 + 1 + 1; omega) (hb hby d9_128) (pc' := 129) rfl (fun T472 h472 X472 e472 W472 V472 => ?_)
      have V472 : AJ Z h472 hp (y2 :: y1 :: y4 :: y3 :: y4 :: rest) := V472
      have KP472 := KP467.wr W472 (Or.inl (by simp))
      have N472 := Fr.snoc X472 N467 g_hp
      have zn472 : n0 ≤ h472.size := by rw [W472.size]; exact zn467
      refine w_lloadN X472 hx (hb hby d9_129) (pc' := 130) rfl rfl ?_
      have f473 := f470.other W472 (Or.inl (Ne.symm nho))
      have f474 := f468.other W472 (Or.inl (Ne.symm nho))
      exact w_retJ X472 hx hret hlk (hb hby d9_130) (by decide) (by decide) (by rw [e472]; exact ⟨rfl, N472, KP472, y2, y1, y4, y3, (y4 :: rest), f473, f474, V472, (by omega), (by omega), (fun f => by omega)⟩)
    · have hz480 := mt Int64.lt_iff_toInt_lt.mpr hc94
      refine w_goto X464 hx (hb hby d9_97) (pc' := 121) (by decide) (by decide) ?_
      refine w_aloadN X464 hx (hb hby d9_121) (pc' := 122) rfl rfl rfl ?_
      refine w_getF X464 hx hZ hown e464 f424 (hw _ (List.mem_of_getElem? (i := 19) rfl)) (hb hby d9_122) (pc' := 125) rfl (fun T476 X476 e476 => ?_)
      refine w_iload X476 hx (hb hby d9_125) (pc' := 127) rfl rfl ?_
      refine w_lloadN X476 hx (hb hby d9_127) (pc' := 128) rfl rfl ?_
      refine w_lastore X476 hx hZ e476 f427 (by decide) (by show (0 : Nat) < rest.length + 1 + 1 + 1 + 1 + 1; omega) (hb hby d9_128) (pc' := 129) rfl (fun T477 h477 X477 e477 W477 V477 => ?_)
      have V477 : AJ Z h477 hp (y4 :: y1 :: y2 :: y3 :: y4 :: rest) := V477
      have KP477 := KP423.wr W477 (Or.inl (by simp))
      have N477 := Fr.snoc X477 N423 g_hp
      have zn477 : n0 ≤ h477.size := by rw [W477.size]; exact zn423
      refine w_lloadN X477 hx (hb hby d9_129) (pc' := 130) rfl rfl ?_
      have f478 := f424.other W477 (Or.inl (Ne.symm nho))
      have f479 := F423.other W477 (Or.inl (Ne.symm nho))
      exact w_retJ X477 hx hret hlk (hb hby d9_130) (by decide) (by decide) (by rw [e477]; exact ⟨rfl, N477, KP477, y4, y1, y2, y3, (y4 :: rest), f478, f479, V477, (by omega), (by omega), (fun f => by omega)⟩)
theorem ef_0 (m : MethodId) (x0 : Int32) (x1 : Int64) (x2 : Int64) (x3 : Int64) (x4 : Int64) (x5 : Int64) : entryFrame m #[(.int x0), (.long x1), (.long x2), (.long x3), (.long x4), (.long x5)] maxLocals = mkF m 0 #[.val (.int x0), .val (.long x1), .second, .val (.long x2), .second, .val (.long x3), .second, .val (.long x4), .second, .val (.long x5), .second, .unset, .unset, .unset, .unset, .unset, .unset, .unset, .unset, .unset, .unset, .unset, .unset, .unset, .unset] [] := by first | (simp [entryFrame, mkF, argsToLocals, Value.category, maxLocals]; done) | rfl
set_option maxRecDepth 65536 in
set_option maxHeartbeats 40000000 in
theorem rm0 (l : Launch) (Z : State) (a0 : Array Value) (hw : ∀ d ∈ tables_1, d.before a0 Z = true) (x0 : Int32) (x1 : Int64) (x2 : Int64) (x3 : Int64) (x4 : Int64) (x5 : Int64) (h0 : Heap) (n0 : Nat) (Z0 : n0 ≤ h0.size) :
    Con l Z x code maxLocals ret room_1 #[(.int x0), (.long x1), (.long x2), (.long x3), (.long x4), (.long x5)] h0 (QL (some (.int 1)) n0) := by
  refine Con.of (plainFor_of_name (by first | (simp [plainName, overriddenIn]; done) | decide +kernel)) ?_
  intro p e s m below meth c T X hx hZ hby hml hown hnm hret hlk e0
  rw [ef_0]
  have N0 := Fr.nil n0
  have hcap : 0 ≤ (x0 &&& (7 : Int32)).toInt ∧ (x0 &&& (7 : Int32)).toInt ≤ 7 := by have := own_m x0 7 (k := 3) (by decide) (by decide); omega
  show Go p e below s room_1.cells room_1.slots (QL (some (.int 1)) n0) T (mkF m 0 #[.val (.int x0), .val (.long x1), .second, .val (.long x2), .second, .val (.long x3), .second, .val (.long x4), .second, .val (.long x5), .second, .unset, .unset, .unset, .unset, .unset, .unset, .unset, .unset, .unset, .unset, .unset, .unset, .unset, .unset] [])
  refine w_ldc2 X hx hZ hown (hw _ (List.mem_of_getElem? (i := 0) rfl)) (hb hby at_0) (pc' := 3) rfl ?_
  refine w_lstore (Ls' := #[.val (.int x0), .val (.long x1), .second, .val (.long x2), .second, .val (.long x3), .second, .val (.long x4), .second, .val (.long x5), .second, .val (.long (-2147483649 : Int64)), .second, .unset, .unset, .unset, .unset, .unset, .unset, .unset, .unset, .unset, .unset, .unset, .unset]) X hx (hb hby at_3) (pc' := 5) rfl rfl ?_
  refine w_iconst (v := 5) X hx (hb hby at_5) (pc' := 6) rfl rfl ?_
  refine w_newJ X hx hZ (cap := 5) e0 (hw _ (List.mem_of_getElem? (i := 1) rfl)) (by decide) (by decide) (by decide) (by decide) (by decide) (hb hby at_6) (pc' := 8) rfl (fun T482 h482 b482 X482 e482 E482 q482 V482 => ?_)
  have g_b482 : n0 ≤ b482 := by rw [q482]; exact Z0
  have V482 : AJ Z h482 b482 [(0 : Int64), (0 : Int64), (0 : Int64), (0 : Int64), (0 : Int64)] := V482
  have zn482 : n0 ≤ h482.size := Nat.le_trans Z0 E482.1
  refine w_dup X482 hx (hb hby at_8) (pc' := 9) rfl rfl ?_
  refine w_iconst (v := 0) X482 hx (hb hby at_9) (pc' := 10) rfl rfl ?_
  refine w_lloadN X482 hx (hb hby at_10) (pc' := 11) rfl rfl ?_
  refine w_lload X482 hx (hb hby at_11) (pc' := 13) rfl rfl ?_
  refine w_land X482 hx (hb hby at_13) (pc' := 14) rfl ?_
  refine w_lastore X482 hx hZ e482 V482 (by decide) (by show _ < 5; decide) (hb hby at_14) (pc' := 15) rfl (fun T483 h483 X483 e483 W483 V483 => ?_)
  have V483 : AJ Z h483 b482 [(x1 &&& (-2147483649 : Int64)), (0 : Int64), (0 : Int64), (0 : Int64), (0 : Int64)] := V483
  have N483 := Fr.snoc X483 N0 g_b482
  have zn483 : n0 ≤ h483.size := by rw [W483.size]; exact zn482
  refine w_dup X483 hx (hb hby at_15) (pc' := 16) rfl rfl ?_
  refine w_iconst (v := 1) X483 hx (hb hby at_16) (pc' := 17) rfl rfl ?_
  refine w_lloadN X483 hx (hb hby at_17) (pc' := 18) rfl rfl ?_
  refine w_lload X483 hx (hb hby at_18) (pc' := 20) rfl rfl ?_
  refine w_land X483 hx (hb hby at_20) (pc' := 21) rfl ?_
  refine w_lastore X483 hx hZ e483 V483 (by decide) (by show _ < 5; decide) (hb hby at_21) (pc' := 22) rfl (fun T484 h484 X484 e484 W484 V484 => ?_)
  have V484 : AJ Z h484 b482 [(x1 &&& (-2147483649 : Int64)), (x2 &&& (-2147483649 : Int64)), (0 : Int64), (0 : Int64), (0 : Int64)] := V484
  have N484 := Fr.snoc X484 N483 g_b482
  have zn484 : n0 ≤ h484.size := by rw [W484.size]; exact zn483
  refine w_dup X484 hx (hb hby at_22) (pc' := 23) rfl rfl ?_
  refine w_iconst (v := 2) X484 hx (hb hby at_23) (pc' := 24) rfl rfl ?_
  refine w_lload X484 hx (hb hby at_24) (pc' := 26) rfl rfl ?_
  refine w_lload X484 hx (hb hby at_26) (pc' := 28) rfl rfl ?_
  refine w_land X484 hx (hb hby at_28) (pc' := 29) rfl ?_
  refine w_lastore X484 hx hZ e484 V484 (by decide) (by show _ < 5; decide) (hb hby at_29) (pc' := 30) rfl (fun T485 h485 X485 e485 W485 V485 => ?_)
  have V485 : AJ Z h485 b482 [(x1 &&& (-2147483649 : Int64)), (x2 &&& (-2147483649 : Int64)), (x3 &&& (-2147483649 : Int64)), (0 : Int64), (0 : Int64)] := V485
  have N485 := Fr.snoc X485 N484 g_b482
  have zn485 : n0 ≤ h485.size := by rw [W485.size]; exact zn484
  refine w_dup X485 hx (hb hby at_30) (pc' := 31) rfl rfl ?_
  refine w_iconst (v := 3) X485 hx (hb hby at_31) (pc' := 32) rfl rfl ?_
  refine w_lload X485 hx (hb hby at_32) (pc' := 34) rfl rfl ?_
  refine w_lload X485 hx (hb hby at_34) (pc' := 36) rfl rfl ?_
  refine w_land X485 hx (hb hby at_36) (pc' := 37) rfl ?_
  refine w_lastore X485 hx hZ e485 V485 (by decide) (by show _ < 5; decide) (hb hby at_37) (pc' := 38) rfl (fun T486 h486 X486 e486 W486 V486 => ?_)
  have V486 : AJ Z h486 b482 [(x1 &&& (-2147483649 : Int64)), (x2 &&& (-2147483649 : Int64)), (x3 &&& (-2147483649 : Int64)), (x4 &&& (-2147483649 : Int64)), (0 : Int64)] := V486
  have N486 := Fr.snoc X486 N485 g_b482
  have zn486 : n0 ≤ h486.size := by rw [W486.size]; exact zn485
  refine w_dup X486 hx (hb hby at_38) (pc' := 39) rfl rfl ?_
  refine w_iconst (v := 4) X486 hx (hb hby at_39) (pc' := 40) rfl rfl ?_
  refine w_lload X486 hx (hb hby at_40) (pc' := 42) rfl rfl ?_
  refine w_lload X486 hx (hb hby at_42) (pc' := 44) rfl rfl ?_
  refine w_land X486 hx (hb hby at_44) (pc' := 45) rfl ?_
  refine w_lastore X486 hx hZ e486 V486 (by decide) (by show _ < 5; decide) (hb hby at_45) (pc' := 46) rfl (fun T487 h487 X487 e487 W487 V487 => ?_)
  have V487 : AJ Z h487 b482 [(x1 &&& (-2147483649 : Int64)), (x2 &&& (-2147483649 : Int64)), (x3 &&& (-2147483649 : Int64)), (x4 &&& (-2147483649 : Int64)), (x5 &&& (-2147483649 : Int64))] := V487
  have N487 := Fr.snoc X487 N486 g_b482
  have zn487 : n0 ≤ h487.size := by rw [W487.size]; exact zn486
  refine w_astore (Ls' := #[.val (.int x0), .val (.long x1), .second, .val (.long x2), .second, .val (.long x3), .second, .val (.long x4), .second, .val (.long x5), .second, .val (.long (-2147483649 : Int64)), .second, .val (.ref b482), .unset, .unset, .unset, .unset, .unset, .unset, .unset, .unset, .unset, .unset, .unset]) X487 hx (hb hby at_46) (pc' := 48) rfl rfl rfl ?_
  refine w_aload X487 hx (hb hby at_48) (pc' := 50) rfl rfl rfl ?_
  refine w_iconst (v := 0) X487 hx (hb hby at_50) (pc' := 51) rfl rfl ?_
  refine w_iconst (v := 1) X487 hx (hb hby at_51) (pc' := 52) rfl rfl ?_
  refine w_callS (argsL := [(.ref b482), (.int (0 : Int32)), (.int (1 : Int32))]) (rest := []) X487 hx hZ hown e487 (rm1_01 l Z a0 hw b482 h487 n0 zn487 ((x1 &&& (-2147483649 : Int64))) ((x2 &&& (-2147483649 : Int64))) ((x3 &&& (-2147483649 : Int64))) ((x4 &&& (-2147483649 : Int64))) ((x5 &&& (-2147483649 : Int64))) g_b482 V487) (hw _ (List.mem_of_getElem? (i := 2) rfl)) (hw _ (List.mem_of_getElem? (i := 3) rfl)) (hw _ (List.mem_of_getElem? (i := 4) rfl)) (hw _ (List.mem_of_getElem? (i := 5) rfl)) (by decide) (by decide) (W := 0) (by decide) (by decide) (by decide) (by rw [hml]; rfl) (lenOf pd_3 rfl) (Nat.le_refl _) rfl (hb hby at_52) (pc' := 55) rfl (fun T488 L488 v488 X488 hQ488 => ?_)
  obtain ⟨rfl, N488q, K488, u488, v488, P488, V488⟩ := hQ488
  have zn488 : n0 ≤ T488.heap.size := Nat.le_trans zn487 K488.1
  have N488 := Fr.app N487 N488q
  have X488 : Stand p l e room_1 s m _ below meth c T488 _ 1 5 := X488
  show Go p e below s room_1.cells room_1.slots (QL (some (.int 1)) n0) T488 (mkF m 55 #[.val (.int x0), .val (.long x1), .second, .val (.long x2), .second, .val (.long x3), .second, .val (.long x4), .second, .val (.long x5), .second, .val (.long (-2147483649 : Int64)), .second, .val (.ref b482), .unset, .unset, .unset, .unset, .unset, .unset, .unset, .unset, .unset, .unset, .unset] [])
  refine w_aload X488 hx (hb hby at_55) (pc' := 57) rfl rfl rfl ?_
  refine w_iconst (v := 3) X488 hx (hb hby at_57) (pc' := 58) rfl rfl ?_
  refine w_iconst (v := 4) X488 hx (hb hby at_58) (pc' := 59) rfl rfl ?_
  refine w_callS (argsL := [(.ref b482), (.int (3 : Int32)), (.int (4 : Int32))]) (rest := []) X488 hx hZ hown rfl (rm1_34 l Z a0 hw b482 T488.heap n0 zn488 (u488) (v488) ((x3 &&& (-2147483649 : Int64))) ((x4 &&& (-2147483649 : Int64))) ((x5 &&& (-2147483649 : Int64))) g_b482 V488) (hw _ (List.mem_of_getElem? (i := 2) rfl)) (hw _ (List.mem_of_getElem? (i := 3) rfl)) (hw _ (List.mem_of_getElem? (i := 4) rfl)) (hw _ (List.mem_of_getElem? (i := 5) rfl)) (by decide) (by decide) (W := 0) (by decide) (by decide) (by decide) (by rw [hml]; rfl) (lenOf pd_3 rfl) (Nat.le_refl _) rfl (hb hby at_59) (pc' := 62) rfl (fun T489 L489 v489 X489 hQ489 => ?_)
  obtain ⟨rfl, N489q, K489, u489, v489, P489, V489⟩ := hQ489
  have zn489 : n0 ≤ T489.heap.size := Nat.le_trans zn488 K489.1
  have N489 := Fr.app N488 N489q
  have X489 : Stand p l e room_1 s m _ below meth c T489 _ 1 5 := X489
  show Go p e below s room_1.cells room_1.slots (QL (some (.int 1)) n0) T489 (mkF m 62 #[.val (.int x0), .val (.long x1), .second, .val (.long x2), .second, .val (.long x3), .second, .val (.long x4), .second, .val (.long x5), .second, .val (.long (-2147483649 : Int64)), .second, .val (.ref b482), .unset, .unset, .unset, .unset, .unset, .unset, .unset, .unset, .unset, .unset, .unset] [])
  refine w_aload X489 hx (hb hby at_62) (pc' := 64) rfl rfl rfl ?_
  refine w_iconst (v := 2) X489 hx (hb hby at_64) (pc' := 65) rfl rfl ?_
  refine w_iconst (v := 4) X489 hx (hb hby at_65) (pc' := 66) rfl rfl ?_
  refine w_callS (argsL := [(.ref b482), (.int (2 : Int32)), (.int (4 : Int32))]) (rest := []) X489 hx hZ hown rfl (rm1_24 l Z a0 hw b482 T489.heap n0 zn489 (u488) (v488) ((x3 &&& (-2147483649 : Int64))) (u489) (v489) g_b482 V489) (hw _ (List.mem_of_getElem? (i := 2) rfl)) (hw _ (List.mem_of_getElem? (i := 3) rfl)) (hw _ (List.mem_of_getElem? (i := 4) rfl)) (hw _ (List.mem_of_getElem? (i := 5) rfl)) (by decide) (by decide) (W := 0) (by decide) (by decide) (by decide) (by rw [hml]; rfl) (lenOf pd_3 rfl) (Nat.le_refl _) rfl (hb hby at_66) (pc' := 69) rfl (fun T490 L490 v490 X490 hQ490 => ?_)
  obtain ⟨rfl, N490q, K490, u490, v490, P490, V490⟩ := hQ490
  have zn490 : n0 ≤ T490.heap.size := Nat.le_trans zn489 K490.1
  have N490 := Fr.app N489 N490q
  have X490 : Stand p l e room_1 s m _ below meth c T490 _ 1 5 := X490
  show Go p e below s room_1.cells room_1.slots (QL (some (.int 1)) n0) T490 (mkF m 69 #[.val (.int x0), .val (.long x1), .second, .val (.long x2), .second, .val (.long x3), .second, .val (.long x4), .second, .val (.long x5), .second, .val (.long (-2147483649 : Int64)), .second, .val (.ref b482), .unset, .unset, .unset, .unset, .unset, .unset, .unset, .unset, .unset, .unset, .unset] [])
  refine w_aload X490 hx (hb hby at_69) (pc' := 71) rfl rfl rfl ?_
  refine w_iconst (v := 2) X490 hx (hb hby at_71) (pc' := 72) rfl rfl ?_
  refine w_iconst (v := 3) X490 hx (hb hby at_72) (pc' := 73) rfl rfl ?_
  refine w_callS (argsL := [(.ref b482), (.int (2 : Int32)), (.int (3 : Int32))]) (rest := []) X490 hx hZ hown rfl (rm1_23 l Z a0 hw b482 T490.heap n0 zn490 (u488) (v488) (u490) (u489) (v490) g_b482 V490) (hw _ (List.mem_of_getElem? (i := 2) rfl)) (hw _ (List.mem_of_getElem? (i := 3) rfl)) (hw _ (List.mem_of_getElem? (i := 4) rfl)) (hw _ (List.mem_of_getElem? (i := 5) rfl)) (by decide) (by decide) (W := 0) (by decide) (by decide) (by decide) (by rw [hml]; rfl) (lenOf pd_3 rfl) (Nat.le_refl _) rfl (hb hby at_73) (pc' := 76) rfl (fun T491 L491 v491 X491 hQ491 => ?_)
  obtain ⟨rfl, N491q, K491, u491, v491, P491, V491⟩ := hQ491
  have zn491 : n0 ≤ T491.heap.size := Nat.le_trans zn490 K491.1
  have N491 := Fr.app N490 N491q
  have X491 : Stand p l e room_1 s m _ below meth c T491 _ 1 5 := X491
  show Go p e below s room_1.cells room_1.slots (QL (some (.int 1)) n0) T491 (mkF m 76 #[.val (.int x0), .val (.long x1), .second, .val (.long x2), .second, .val (.long x3), .second, .val (.long x4), .second, .val (.long x5), .second, .val (.long (-2147483649 : Int64)), .second, .val (.ref b482), .unset, .unset, .unset, .unset, .unset, .unset, .unset, .unset, .unset, .unset, .unset] [])
  refine w_aload X491 hx (hb hby at_76) (pc' := 78) rfl rfl rfl ?_
  refine w_iconst (v := 0) X491 hx (hb hby at_78) (pc' := 79) rfl rfl ?_
  refine w_iconst (v := 3) X491 hx (hb hby at_79) (pc' := 80) rfl rfl ?_
  refine w_callS (argsL := [(.ref b482), (.int (0 : Int32)), (.int (3 : Int32))]) (rest := []) X491 hx hZ hown rfl (rm1_03 l Z a0 hw b482 T491.heap n0 zn491 (u488) (v488) (u491) (v491) (v490) g_b482 V491) (hw _ (List.mem_of_getElem? (i := 2) rfl)) (hw _ (List.mem_of_getElem? (i := 3) rfl)) (hw _ (List.mem_of_getElem? (i := 4) rfl)) (hw _ (List.mem_of_getElem? (i := 5) rfl)) (by decide) (by decide) (W := 0) (by decide) (by decide) (by decide) (by rw [hml]; rfl) (lenOf pd_3 rfl) (Nat.le_refl _) rfl (hb hby at_80) (pc' := 83) rfl (fun T492 L492 v492 X492 hQ492 => ?_)
  obtain ⟨rfl, N492q, K492, u492, v492, P492, V492⟩ := hQ492
  have zn492 : n0 ≤ T492.heap.size := Nat.le_trans zn491 K492.1
  have N492 := Fr.app N491 N492q
  have X492 : Stand p l e room_1 s m _ below meth c T492 _ 1 5 := X492
  show Go p e below s room_1.cells room_1.slots (QL (some (.int 1)) n0) T492 (mkF m 83 #[.val (.int x0), .val (.long x1), .second, .val (.long x2), .second, .val (.long x3), .second, .val (.long x4), .second, .val (.long x5), .second, .val (.long (-2147483649 : Int64)), .second, .val (.ref b482), .unset, .unset, .unset, .unset, .unset, .unset, .unset, .unset, .unset, .unset, .unset] [])
  refine w_aload X492 hx (hb hby at_83) (pc' := 85) rfl rfl rfl ?_
  refine w_iconst (v := 0) X492 hx (hb hby at_85) (pc' := 86) rfl rfl ?_
  refine w_iconst (v := 2) X492 hx (hb hby at_86) (pc' := 87) rfl rfl ?_
  refine w_callS (argsL := [(.ref b482), (.int (0 : Int32)), (.int (2 : Int32))]) (rest := []) X492 hx hZ hown rfl (rm1_02 l Z a0 hw b482 T492.heap n0 zn492 (u492) (v488) (u491) (v492) (v490) g_b482 V492) (hw _ (List.mem_of_getElem? (i := 2) rfl)) (hw _ (List.mem_of_getElem? (i := 3) rfl)) (hw _ (List.mem_of_getElem? (i := 4) rfl)) (hw _ (List.mem_of_getElem? (i := 5) rfl)) (by decide) (by decide) (W := 0) (by decide) (by decide) (by decide) (by rw [hml]; rfl) (lenOf pd_3 rfl) (Nat.le_refl _) rfl (hb hby at_87) (pc' := 90) rfl (fun T493 L493 v493 X493 hQ493 => ?_)
  obtain ⟨rfl, N493q, K493, u493, v493, P493, V493⟩ := hQ493
  have zn493 : n0 ≤ T493.heap.size := Nat.le_trans zn492 K493.1
  have N493 := Fr.app N492 N493q
  have X493 : Stand p l e room_1 s m _ below meth c T493 _ 1 5 := X493
  show Go p e below s room_1.cells room_1.slots (QL (some (.int 1)) n0) T493 (mkF m 90 #[.val (.int x0), .val (.long x1), .second, .val (.long x2), .second, .val (.long x3), .second, .val (.long x4), .second, .val (.long x5), .second, .val (.long (-2147483649 : Int64)), .second, .val (.ref b482), .unset, .unset, .unset, .unset, .unset, .unset, .unset, .unset, .unset, .unset, .unset] [])
  refine w_aload X493 hx (hb hby at_90) (pc' := 92) rfl rfl rfl ?_
  refine w_iconst (v := 1) X493 hx (hb hby at_92) (pc' := 93) rfl rfl ?_
  refine w_iconst (v := 4) X493 hx (hb hby at_93) (pc' := 94) rfl rfl ?_
  refine w_callS (argsL := [(.ref b482), (.int (1 : Int32)), (.int (4 : Int32))]) (rest := []) X493 hx hZ hown rfl (rm1_14 l Z a0 hw b482 T493.heap n0 zn493 (u493) (v488) (v493) (v492) (v490) g_b482 V493) (hw _ (List.mem_of_getElem? (i := 2) rfl)) (hw _ (List.mem_of_getElem? (i := 3) rfl)) (hw _ (List.mem_of_getElem? (i := 4) rfl)) (hw _ (List.mem_of_getElem? (i := 5) rfl)) (by decide) (by decide) (W := 0) (by decide) (by decide) (by decide) (by rw [hml]; rfl) (lenOf pd_3 rfl) (Nat.le_refl _) rfl (hb hby at_94) (pc' := 97) rfl (fun T494 L494 v494 X494 hQ494 => ?_)
  obtain ⟨rfl, N494q, K494, u494, v494, P494, V494⟩ := hQ494
  have zn494 : n0 ≤ T494.heap.size := Nat.le_trans zn493 K494.1
  have N494 := Fr.app N493 N494q
  have X494 : Stand p l e room_1 s m _ below meth c T494 _ 1 5 := X494
  show Go p e below s room_1.cells room_1.slots (QL (some (.int 1)) n0) T494 (mkF m 97 #[.val (.int x0), .val (.long x1), .second, .val (.long x2), .second, .val (.long x3), .second, .val (.long x4), .second, .val (.long x5), .second, .val (.long (-2147483649 : Int64)), .second, .val (.ref b482), .unset, .unset, .unset, .unset, .unset, .unset, .unset, .unset, .unset, .unset, .unset] [])
  refine w_aload X494 hx (hb hby at_97) (pc' := 99) rfl rfl rfl ?_
  refine w_iconst (v := 1) X494 hx (hb hby at_99) (pc' := 100) rfl rfl ?_
  refine w_iconst (v := 3) X494 hx (hb hby at_100) (pc' := 101) rfl rfl ?_
  refine w_callS (argsL := [(.ref b482), (.int (1 : Int32)), (.int (3 : Int32))]) (rest := []) X494 hx hZ hown rfl (rm1_13 l Z a0 hw b482 T494.heap n0 zn494 (u493) (u494) (v493) (v492) (v494) g_b482 V494) (hw _ (List.mem_of_getElem? (i := 2) rfl)) (hw _ (List.mem_of_getElem? (i := 3) rfl)) (hw _ (List.mem_of_getElem? (i := 4) rfl)) (hw _ (List.mem_of_getElem? (i := 5) rfl)) (by decide) (by decide) (W := 0) (by decide) (by decide) (by decide) (by rw [hml]; rfl) (lenOf pd_3 rfl) (Nat.le_refl _) rfl (hb hby at_101) (pc' := 104) rfl (fun T495 L495 v495 X495 hQ495 => ?_)
  obtain ⟨rfl, N495q, K495, u495, v495, P495, V495⟩ := hQ495
  have zn495 : n0 ≤ T495.heap.size := Nat.le_trans zn494 K495.1
  have N495 := Fr.app N494 N495q
  have X495 : Stand p l e room_1 s m _ below meth c T495 _ 1 5 := X495
  show Go p e below s room_1.cells room_1.slots (QL (some (.int 1)) n0) T495 (mkF m 104 #[.val (.int x0), .val (.long x1), .second, .val (.long x2), .second, .val (.long x3), .second, .val (.long x4), .second, .val (.long x5), .second, .val (.long (-2147483649 : Int64)), .second, .val (.ref b482), .unset, .unset, .unset, .unset, .unset, .unset, .unset, .unset, .unset, .unset, .unset] [])
  refine w_aload X495 hx (hb hby at_104) (pc' := 106) rfl rfl rfl ?_
  refine w_iconst (v := 1) X495 hx (hb hby at_106) (pc' := 107) rfl rfl ?_
  refine w_iconst (v := 2) X495 hx (hb hby at_107) (pc' := 108) rfl rfl ?_
  refine w_callS (argsL := [(.ref b482), (.int (1 : Int32)), (.int (2 : Int32))]) (rest := []) X495 hx hZ hown rfl (rm1_12 l Z a0 hw b482 T495.heap n0 zn495 (u493) (u495) (v493) (v495) (v494) g_b482 V495) (hw _ (List.mem_of_getElem? (i := 2) rfl)) (hw _ (List.mem_of_getElem? (i := 3) rfl)) (hw _ (List.mem_of_getElem? (i := 4) rfl)) (hw _ (List.mem_of_getElem? (i := 5) rfl)) (by decide) (by decide) (W := 0) (by decide) (by decide) (by decide) (by rw [hml]; rfl) (lenOf pd_3 rfl) (Nat.le_refl _) rfl (hb hby at_108) (pc' := 111) rfl (fun T496 L496 v496 X496 hQ496 => ?_)
  obtain ⟨rfl, N496q, K496, u496, v496, P496, V496⟩ := hQ496
  have zn496 : n0 ≤ T496.heap.size := Nat.le_trans zn495 K496.1
  have N496 := Fr.app N495 N496q
  have X496 : Stand p l e room_1 s m _ below meth c T496 _ 1 5 := X496
  show Go p e below s room_1.cells room_1.slots (QL (some (.int 1)) n0) T496 (mkF m 111 #[.val (.int x0), .val (.long x1), .second, .val (.long x2), .second, .val (.long x3), .second, .val (.long x4), .second, .val (.long x5), .second, .val (.long (-2147483649 : Int64)), .second, .val (.ref b482), .unset, .unset, .unset, .unset, .unset, .unset, .unset, .unset, .unset, .unset, .unset] [])
  refine w_newO X496 hx hZ hown rfl (hw _ (List.mem_of_getElem? (i := 6) rfl)) (hw _ (List.mem_of_getElem? (i := 7) rfl)) (hw _ (List.mem_of_getElem? (i := 8) rfl)) (hb hby at_111) (by decide) (by decide) (pc' := 114) rfl (fun T497 h497 b497 X497 e497 E497 q497 A497 D497 => ?_)
  have g_b497 : n0 ≤ b497 := by rw [q497]; exact zn496
  have ne_b482_b497 : b482 ≠ b497 := by rw [q497]; exact Nat.ne_of_lt V496.lt
  have F_heap_b497 : Fld Z h497 b497 "com/example/facet/facet/regex/MinQueue" "heap" "[J" .null := D497 (Or.inl (hw _ (List.mem_of_getElem? (i := 20) rfl))) (ty := (.array .long)) (by decide)
  have F_size_b497 : Fld Z h497 b497 "com/example/facet/facet/regex/MinQueue" "size" "I" (.int (0 : Int32)) := D497 (Or.inl (hw _ (List.mem_of_getElem? (i := 31) rfl))) (ty := .int) (by decide)
  have zn497 : n0 ≤ h497.size := Nat.le_trans zn496 E497.1
  refine w_dup X497 hx (hb hby at_114) (pc' := 115) rfl rfl ?_
  refine w_iloadN X497 hx (hb hby at_115) (pc' := 116) rfl rfl ?_
  refine w_bipush (v := 7) X497 hx (hb hby at_116) (pc' := 118) rfl rfl ?_
  refine w_iand X497 hx (hb hby at_118) (pc' := 119) rfl ?_
  have f499 := V496.ext E497
  refine w_callI (argsL := [(.int (x0 &&& (7 : Int32)))]) (rest := [(.ref b497)]) (a := b497) X497 hx hZ hown e497 (rm2 l Z a0 hw b497 (x0 &&& (7 : Int32)) h497 n0 zn497 A497 g_b497 F_heap_b497 F_size_b497 hcap) rfl (hw _ (List.mem_of_getElem? (i := 9) rfl)) (hw _ (List.mem_of_getElem? (i := 10) rfl)) (hw _ (List.mem_of_getElem? (i := 8) rfl)) (hw _ (List.mem_of_getElem? (i := 11) rfl)) (by decide) (by decide) (W := 1) (by decide) (by decide) (by decide) (by rw [hml]; rfl) (lenOf pd_4 rfl) (Nat.le_refl _) rfl (hb hby at_119) (pc' := 122) rfl (fun T498 L498 v498 X498 hQ498 => ?_)
  obtain ⟨rfl, N498q, K498, b498, rs498, sz498, Fh498, Fs498, V498, l1498, l8498⟩ := hQ498
  have zn498 : n0 ≤ T498.heap.size := Nat.le_trans zn497 K498.1
  have g_b498 : n0 ≤ b498 := Nat.le_trans zn497 sz498
  have ne_b482_b498 : b482 ≠ b498 := Nat.ne_of_lt (Nat.lt_of_lt_of_le f499.lt sz498)
  have ne_b497_b498 : b497 ≠ b498 := Nat.ne_of_lt (Nat.lt_of_lt_of_le A497.lt sz498)
  have N498 := Fr.app N496 N498q
  have X498 : Stand p l e room_1 s m _ below meth c T498 _ 3 14 := X498
  show Go p e below s room_1.cells room_1.slots (QL (some (.int 1)) n0) T498 (mkF m 122 #[.val (.int x0), .val (.long x1), .second, .val (.long x2), .second, .val (.long x3), .second, .val (.long x4), .second, .val (.long x5), .second, .val (.long (-2147483649 : Int64)), .second, .val (.ref b482), .unset, .unset, .unset, .unset, .unset, .unset, .unset, .unset, .unset, .unset, .unset] [(.ref b497)])
  refine w_astore (Ls' := #[.val (.int x0), .val (.long x1), .second, .val (.long x2), .second, .val (.long x3), .second, .val (.long x4), .second, .val (.long x5), .second, .val (.long (-2147483649 : Int64)), .second, .val (.ref b482), .val (.ref b497), .unset, .unset, .unset, .unset, .unset, .unset, .unset, .unset, .unset, .unset]) X498 hx (hb hby at_122) (pc' := 124) rfl rfl rfl ?_
  refine w_aload X498 hx (hb hby at_124) (pc' := 126) rfl rfl rfl ?_
  refine w_lloadN X498 hx (hb hby at_126) (pc' := 127) rfl rfl ?_
  have f501 := A497.keep K498
  have f502 := f499.keep K498 (ninS ne_b482_b497 nin0)
  refine w_callS (argsL := [(.ref b497), (.long x1)]) (rest := []) X498 hx hZ hown rfl (rm5_0 l Z a0 hw b497 x1 T498.heap n0 zn498 b498   rs498 f501 g_b497 g_b498 Fh498 Fs498 V498 (Ne.symm ne_b497_b498) trivial  l8498 l1498) (hw _ (List.mem_of_getElem? (i := 21) rfl)) (hw _ (List.mem_of_getElem? (i := 22) rfl)) (hw _ (List.mem_of_getElem? (i := 4) rfl)) (hw _ (List.mem_of_getElem? (i := 23) rfl)) (by decide) (by decide) (W := 0) (by decide) (by decide) (by decide) (by rw [hml]; rfl) (lenOf pd_5 rfl) (Nat.le_refl _) rfl (hb hby at_127) (pc' := 130) rfl (fun T500 L500 v500 X500 hQ500 => ?_)
  obtain ⟨rfl, N500q, K500, b500, k0_500, rs500, Fh500, Fs500, V500, rl500, od500, sm500, nb500, hb500⟩ := hQ500
  have zn500 : n0 ≤ T500.heap.size := Nat.le_trans zn498 K500.1
  have N500 := Fr.app N498 N500q
  have X500 : Stand p l e room_1 s m _ below meth c T500 _ 4 22 := X500
  have g_b500 : n0 ≤ b500 := hb500.elim (fun q => by rw [q]; exact g_b498) (fun q => Nat.le_trans zn498 q)
  have ne_b482_b500 : b482 ≠ b500 := hb500.elim (fun z => by rw [z]; exact ne_b482_b498) (fun z => Nat.ne_of_lt (Nat.lt_of_lt_of_le f502.lt z))
  show Go p e below s room_1.cells room_1.slots (QL (some (.int 1)) n0) T500 (mkF m 130 #[.val (.int x0), .val (.long x1), .second, .val (.long x2), .second, .val (.long x3), .second, .val (.long x4), .second, .val (.long x5), .second, .val (.long (-2147483649 : Int64)), .second, .val (.ref b482), .val (.ref b497), .unset, .unset, .unset, .unset, .unset, .unset, .unset, .unset, .unset, .unset] [])
  refine w_aload X500 hx (hb hby at_130) (pc' := 132) rfl rfl rfl ?_
  refine w_lloadN X500 hx (hb hby at_132) (pc' := 133) rfl rfl ?_
  have f504 := f501.keep K500
  have f505 := f502.keep K500 (ninS ne_b482_b497 (ninS ne_b482_b498 nin0))
  refine w_callS (argsL := [(.ref b497), (.long x2)]) (rest := []) X500 hx hZ hown rfl (rm5_1 l Z a0 hw b497 x2 T500.heap n0 zn500 b500  k0_500 rs500 f504 g_b497 g_b500 Fh500 Fs500 V500 nb500 od500  rl500 ) (hw _ (List.mem_of_getElem? (i := 21) rfl)) (hw _ (List.mem_of_getElem? (i := 22) rfl)) (hw _ (List.mem_of_getElem? (i := 4) rfl)) (hw _ (List.mem_of_getElem? (i := 23) rfl)) (by decide) (by decide) (W := 0) (by decide) (by decide) (by decide) (by rw [hml]; rfl) (lenOf pd_5 rfl) (Nat.le_refl _) rfl (hb hby at_133) (pc' := 136) rfl (fun T503 L503 v503 X503 hQ503 => ?_)
  obtain ⟨rfl, N503q, K503, b503, k0_503, k1_503, rs503, Fh503, Fs503, V503, rl503, od503, sm503, nb503, hb503⟩ := hQ503
  have zn503 : n0 ≤ T503.heap.size := Nat.le_trans zn500 K503.1
  have N503 := Fr.app N500 N503q
  have X503 : Stand p l e room_1 s m _ below meth c T503 _ 5 30 := X503
  have g_b503 : n0 ≤ b503 := hb503.elim (fun q => by rw [q]; exact g_b500) (fun q => Nat.le_trans zn500 q)
  have ne_b482_b503 : b482 ≠ b503 := hb503.elim (fun z => by rw [z]; exact ne_b482_b500) (fun z => Nat.ne_of_lt (Nat.lt_of_lt_of_le f505.lt z))
  show Go p e below s room_1.cells room_1.slots (QL (some (.int 1)) n0) T503 (mkF m 136 #[.val (.int x0), .val (.long x1), .second, .val (.long x2), .second, .val (.long x3), .second, .val (.long x4), .second, .val (.long x5), .second, .val (.long (-2147483649 : Int64)), .second, .val (.ref b482), .val (.ref b497), .unset, .unset, .unset, .unset, .unset, .unset, .unset, .unset, .unset, .unset] [])
  refine w_aload X503 hx (hb hby at_136) (pc' := 138) rfl rfl rfl ?_
  refine w_lload X503 hx (hb hby at_138) (pc' := 140) rfl rfl ?_
  have f507 := f504.keep K503
  have f508 := f505.keep K503 (ninS ne_b482_b497 (ninS ne_b482_b500 nin0))
  refine w_callS (argsL := [(.ref b497), (.long x3)]) (rest := []) X503 hx hZ hown rfl (rm5_2 l Z a0 hw b497 x3 T503.heap n0 zn503 b503  k0_503 k1_503 rs503 f507 g_b497 g_b503 Fh503 Fs503 V503 nb503 od503  rl503 ) (hw _ (List.mem_of_getElem? (i := 21) rfl)) (hw _ (List.mem_of_getElem? (i := 22) rfl)) (hw _ (List.mem_of_getElem? (i := 4) rfl)) (hw _ (List.mem_of_getElem? (i := 23) rfl)) (by decide) (by decide) (W := 0) (by decide) (by decide) (by decide) (by rw [hml]; rfl) (lenOf pd_5 rfl) (Nat.le_refl _) rfl (hb hby at_140) (pc' := 143) rfl (fun T506 L506 v506 X506 hQ506 => ?_)
  obtain ⟨rfl, N506q, K506, b506, k0_506, k1_506, k2_506, rs506, Fh506, Fs506, V506, rl506, od506, sm506, nb506, hb506⟩ := hQ506
  have zn506 : n0 ≤ T506.heap.size := Nat.le_trans zn503 K506.1
  have N506 := Fr.app N503 N506q
  have X506 : Stand p l e room_1 s m _ below meth c T506 _ 6 38 := X506
  have g_b506 : n0 ≤ b506 := hb506.elim (fun q => by rw [q]; exact g_b503) (fun q => Nat.le_trans zn503 q)
  have ne_b482_b506 : b482 ≠ b506 := hb506.elim (fun z => by rw [z]; exact ne_b482_b503) (fun z => Nat.ne_of_lt (Nat.lt_of_lt_of_le f508.lt z))
  show Go p e below s room_1.cells room_1.slots (QL (some (.int 1)) n0) T506 (mkF m 143 #[.val (.int x0), .val (.long x1), .second, .val (.long x2), .second, .val (.long x3), .second, .val (.long x4), .second, .val (.long x5), .second, .val (.long (-2147483649 : Int64)), .second, .val (.ref b482), .val (.ref b497), .unset, .unset, .unset, .unset, .unset, .unset, .unset, .unset, .unset, .unset] [])
  refine w_aload X506 hx (hb hby at_143) (pc' := 145) rfl rfl rfl ?_
  refine w_lload X506 hx (hb hby at_145) (pc' := 147) rfl rfl ?_
  have f510 := f507.keep K506
  have f511 := f508.keep K506 (ninS ne_b482_b497 (ninS ne_b482_b503 nin0))
  refine w_callS (argsL := [(.ref b497), (.long x4)]) (rest := []) X506 hx hZ hown rfl (rm5_3 l Z a0 hw b497 x4 T506.heap n0 zn506 b506  k0_506 k1_506 k2_506 rs506 f510 g_b497 g_b506 Fh506 Fs506 V506 nb506 od506  rl506 ) (hw _ (List.mem_of_getElem? (i := 21) rfl)) (hw _ (List.mem_of_getElem? (i := 22) rfl)) (hw _ (List.mem_of_getElem? (i := 4) rfl)) (hw _ (List.mem_of_getElem? (i := 23) rfl)) (by decide) (by decide) (W := 0) (by decide) (by decide) (by decide) (by rw [hml]; rfl) (lenOf pd_5 rfl) (Nat.le_refl _) rfl (hb hby at_147) (pc' := 150) rfl (fun T509 L509 v509 X509 hQ509 => ?_)
  obtain ⟨rfl, N509q, K509, b509, k0_509, k1_509, k2_509, k3_509, rs509, Fh509, Fs509, V509, rl509, od509, sm509, nb509, hb509⟩ := hQ509
  have zn509 : n0 ≤ T509.heap.size := Nat.le_trans zn506 K509.1
  have N509 := Fr.app N506 N509q
  have X509 : Stand p l e room_1 s m _ below meth c T509 _ 7 46 := X509
  have g_b509 : n0 ≤ b509 := hb509.elim (fun q => by rw [q]; exact g_b506) (fun q => Nat.le_trans zn506 q)
  have ne_b482_b509 : b482 ≠ b509 := hb509.elim (fun z => by rw [z]; exact ne_b482_b506) (fun z => Nat.ne_of_lt (Nat.lt_of_lt_of_le f511.lt z))
  show Go p e below s room_1.cells room_1.slots (QL (some (.int 1)) n0) T509 (mkF m 150 #[.val (.int x0), .val (.long x1), .second, .val (.long x2), .second, .val (.long x3), .second, .val (.long x4), .second, .val (.long x5), .second, .val (.long (-2147483649 : Int64)), .second, .val (.ref b482), .val (.ref b497), .unset, .unset, .unset, .unset, .unset, .unset, .unset, .unset, .unset, .unset] [])
  refine w_aload X509 hx (hb hby at_150) (pc' := 152) rfl rfl rfl ?_
  refine w_lload X509 hx (hb hby at_152) (pc' := 154) rfl rfl ?_
  have f513 := f510.keep K509
  have f514 := f511.keep K509 (ninS ne_b482_b497 (ninS ne_b482_b506 nin0))
  refine w_callS (argsL := [(.ref b497), (.long x5)]) (rest := []) X509 hx hZ hown rfl (rm5_4 l Z a0 hw b497 x5 T509.heap n0 zn509 b509  k0_509 k1_509 k2_509 k3_509 rs509 f513 g_b497 g_b509 Fh509 Fs509 V509 nb509 od509  rl509 ) (hw _ (List.mem_of_getElem? (i := 21) rfl)) (hw _ (List.mem_of_getElem? (i := 22) rfl)) (hw _ (List.mem_of_getElem? (i := 4) rfl)) (hw _ (List.mem_of_getElem? (i := 23) rfl)) (by decide) (by decide) (W := 0) (by decide) (by decide) (by decide) (by rw [hml]; rfl) (lenOf pd_5 rfl) (Nat.le_refl _) rfl (hb hby at_154) (pc' := 157) rfl (fun T512 L512 v512 X512 hQ512 => ?_)
  obtain ⟨rfl, N512q, K512, b512, k0_512, k1_512, k2_512, k3_512, k4_512, rs512, Fh512, Fs512, V512, rl512, od512, sm512, nb512, hb512⟩ := hQ512
  have zn512 : n0 ≤ T512.heap.size := Nat.le_trans zn509 K512.1
  have N512 := Fr.app N509 N512q
  have X512 : Stand p l e room_1 s m _ below meth c T512 _ 8 54 := X512
  have g_b512 : n0 ≤ b512 := hb512.elim (fun q => by rw [q]; exact g_b509) (fun q => Nat.le_trans zn509 q)
  have ne_b482_b512 : b482 ≠ b512 := hb512.elim (fun z => by rw [z]; exact ne_b482_b509) (fun z => Nat.ne_of_lt (Nat.lt_of_lt_of_le f514.lt z))
  show Go p e below s room_1.cells room_1.slots (QL (some (.int 1)) n0) T512 (mkF m 157 #[.val (.int x0), .val (.long x1), .second, .val (.long x2), .second, .val (.long x3), .second, .val (.long x4), .second, .val (.long x5), .second, .val (.long (-2147483649 : Int64)), .second, .val (.ref b482), .val (.ref b497), .unset, .unset, .unset, .unset, .unset, .unset, .unset, .unset, .unset, .unset] [])
  refine w_aload X512 hx (hb hby at_157) (pc' := 159) rfl rfl rfl ?_
  have f516 := f513.keep K512
  refine w_callV (argsL := []) (rest := []) (a := b497) X512 hx hZ hown rfl f516 (rm9_5 l Z a0 hw b497 T512.heap n0 zn512 b512 k0_512 k1_512 k2_512 k3_512 k4_512 rs512 f516 g_b497 g_b512 Fh512 Fs512 V512 nb512 od512) (hw _ (List.mem_of_getElem? (i := 43) rfl)) (hw _ (List.mem_of_getElem? (i := 44) rfl)) (hw _ (List.mem_of_getElem? (i := 46) rfl)) (hw _ (List.mem_of_getElem? (i := 45) rfl)) (hw _ (List.mem_of_getElem? (i := 8) rfl)) (hw _ (List.mem_of_getElem? (i := 47) rfl)) (by decide) (by decide) (W := 0) (by decide) (by decide) (by decide) (by rw [hml]; rfl) (lenOf pd_6 rfl) (Nat.le_refl _) rfl (hb hby at_159) (pc' := 162) rfl (fun T515 L515 v515 X515 hQ515 => ?_)
  obtain ⟨rfl, N515q, K515, k0_515, k1_515, k2_515, k3_515, rs515, Fh515, Fs515, V515, od515, hd515, sm515⟩ := hQ515
  have zn515 : n0 ≤ T515.heap.size := Nat.le_trans zn512 K515.1
  have N515 := Fr.app N512 N515q
  have X515 : Stand p l e room_1 s m _ below meth c T515 _ 8 54 := X515
  show Go p e below s room_1.cells room_1.slots (QL (some (.int 1)) n0) T515 (mkF m 162 #[.val (.int x0), .val (.long x1), .second, .val (.long x2), .second, .val (.long x3), .second, .val (.long x4), .second, .val (.long x5), .second, .val (.long (-2147483649 : Int64)), .second, .val (.ref b482), .val (.ref b497), .unset, .unset, .unset, .unset, .unset, .unset, .unset, .unset, .unset, .unset] [(.long k0_512)])
  refine w_lstore (Ls' := #[.val (.int x0), .val (.long x1), .second, .val (.long x2), .second, .val (.long x3), .second, .val (.long x4), .second, .val (.long x5), .second, .val (.long (-2147483649 : Int64)), .second, .val (.ref b482), .val (.ref b497), .val (.long k0_512), .second, .unset, .unset, .unset, .unset, .unset, .unset, .unset, .unset]) X515 hx (hb hby at_162) (pc' := 164) rfl rfl ?_
  refine w_aload X515 hx (hb hby at_164) (pc' := 166) rfl rfl rfl ?_
  have f518 := f516.keep K515
  refine w_callV (argsL := []) (rest := []) (a := b497) X515 hx hZ hown rfl f518 (rm9_4 l Z a0 hw b497 T515.heap n0 zn515 b512 k0_515 k1_515 k2_515 k3_515 rs515 f518 g_b497 g_b512 Fh515 Fs515 V515 nb512 od515) (hw _ (List.mem_of_getElem? (i := 43) rfl)) (hw _ (List.mem_of_getElem? (i := 44) rfl)) (hw _ (List.mem_of_getElem? (i := 46) rfl)) (hw _ (List.mem_of_getElem? (i := 45) rfl)) (hw _ (List.mem_of_getElem? (i := 8) rfl)) (hw _ (List.mem_of_getElem? (i := 47) rfl)) (by decide) (by decide) (W := 0) (by decide) (by decide) (by decide) (by rw [hml]; rfl) (lenOf pd_6 rfl) (Nat.le_refl _) rfl (hb hby at_166) (pc' := 169) rfl (fun T517 L517 v517 X517 hQ517 => ?_)
  obtain ⟨rfl, N517q, K517, k0_517, k1_517, k2_517, rs517, Fh517, Fs517, V517, od517, hd517, sm517⟩ := hQ517
  have zn517 : n0 ≤ T517.heap.size := Nat.le_trans zn515 K517.1
  have N517 := Fr.app N515 N517q
  have X517 : Stand p l e room_1 s m _ below meth c T517 _ 8 54 := X517
  show Go p e below s room_1.cells room_1.slots (QL (some (.int 1)) n0) T517 (mkF m 169 #[.val (.int x0), .val (.long x1), .second, .val (.long x2), .second, .val (.long x3), .second, .val (.long x4), .second, .val (.long x5), .second, .val (.long (-2147483649 : Int64)), .second, .val (.ref b482), .val (.ref b497), .val (.long k0_512), .second, .unset, .unset, .unset, .unset, .unset, .unset, .unset, .unset] [(.long k0_515)])
  refine w_lstore (Ls' := #[.val (.int x0), .val (.long x1), .second, .val (.long x2), .second, .val (.long x3), .second, .val (.long x4), .second, .val (.long x5), .second, .val (.long (-2147483649 : Int64)), .second, .val (.ref b482), .val (.ref b497), .val (.long k0_512), .second, .val (.long k0_515), .second, .unset, .unset, .unset, .unset, .unset, .unset]) X517 hx (hb hby at_169) (pc' := 171) rfl rfl ?_
  refine w_aload X517 hx (hb hby at_171) (pc' := 173) rfl rfl rfl ?_
  have f520 := f518.keep K517
  refine w_callV (argsL := []) (rest := []) (a := b497) X517 hx hZ hown rfl f520 (rm9_3 l Z a0 hw b497 T517.heap n0 zn517 b512 k0_517 k1_517 k2_517 rs517 f520 g_b497 g_b512 Fh517 Fs517 V517 nb512 od517) (hw _ (List.mem_of_getElem? (i := 43) rfl)) (hw _ (List.mem_of_getElem? (i := 44) rfl)) (hw _ (List.mem_of_getElem? (i := 46) rfl)) (hw _ (List.mem_of_getElem? (i := 45) rfl)) (hw _ (List.mem_of_getElem? (i := 8) rfl)) (hw _ (List.mem_of_getElem? (i := 47) rfl)) (by decide) (by decide) (W := 0) (by decide) (by decide) (by decide) (by rw [hml]; rfl) (lenOf pd_6 rfl) (Nat.le_refl _) rfl (hb hby at_173) (pc' := 176) rfl (fun T519 L519 v519 X519 hQ519 => ?_)
  obtain ⟨rfl, N519q, K519, k0_519, k1_519, rs519, Fh519, Fs519, V519, od519, hd519, sm519⟩ := hQ519
  have zn519 : n0 ≤ T519.heap.size := Nat.le_trans zn517 K519.1
  have N519 := Fr.app N517 N519q
  have X519 : Stand p l e room_1 s m _ below meth c T519 _ 8 54 := X519
  show Go p e below s room_1.cells room_1.slots (QL (some (.int 1)) n0) T519 (mkF m 176 #[.val (.int x0), .val (.long x1), .second, .val (.long x2), .second, .val (.long x3), .second, .val (.long x4), .second, .val (.long x5), .second, .val (.long (-2147483649 : Int64)), .second, .val (.ref b482), .val (.ref b497), .val (.long k0_512), .second, .val (.long k0_515), .second, .unset, .unset, .unset, .unset, .unset, .unset] [(.long k0_517)])
  refine w_lstore (Ls' := #[.val (.int x0), .val (.long x1), .second, .val (.long x2), .second, .val (.long x3), .second, .val (.long x4), .second, .val (.long x5), .second, .val (.long (-2147483649 : Int64)), .second, .val (.ref b482), .val (.ref b497), .val (.long k0_512), .second, .val (.long k0_515), .second, .val (.long k0_517), .second, .unset, .unset, .unset, .unset]) X519 hx (hb hby at_176) (pc' := 178) rfl rfl ?_
  refine w_aload X519 hx (hb hby at_178) (pc' := 180) rfl rfl rfl ?_
  have f522 := f520.keep K519
  refine w_callV (argsL := []) (rest := []) (a := b497) X519 hx hZ hown rfl f522 (rm9_2 l Z a0 hw b497 T519.heap n0 zn519 b512 k0_519 k1_519 rs519 f522 g_b497 g_b512 Fh519 Fs519 V519 nb512 od519) (hw _ (List.mem_of_getElem? (i := 43) rfl)) (hw _ (List.mem_of_getElem? (i := 44) rfl)) (hw _ (List.mem_of_getElem? (i := 46) rfl)) (hw _ (List.mem_of_getElem? (i := 45) rfl)) (hw _ (List.mem_of_getElem? (i := 8) rfl)) (hw _ (List.mem_of_getElem? (i := 47) rfl)) (by decide) (by decide) (W := 0) (by decide) (by decide) (by decide) (by rw [hml]; rfl) (lenOf pd_6 rfl) (Nat.le_refl _) rfl (hb hby at_180) (pc' := 183) rfl (fun T521 L521 v521 X521 hQ521 => ?_)
  obtain ⟨rfl, N521q, K521, k0_521, rs521, Fh521, Fs521, V521, od521, hd521, sm521⟩ := hQ521
  have zn521 : n0 ≤ T521.heap.size := Nat.le_trans zn519 K521.1
  have N521 := Fr.app N519 N521q
  have X521 : Stand p l e room_1 s m _ below meth c T521 _ 8 54 := X521
  show Go p e below s room_1.cells room_1.slots (QL (some (.int 1)) n0) T521 (mkF m 183 #[.val (.int x0), .val (.long x1), .second, .val (.long x2), .second, .val (.long x3), .second, .val (.long x4), .second, .val (.long x5), .second, .val (.long (-2147483649 : Int64)), .second, .val (.ref b482), .val (.ref b497), .val (.long k0_512), .second, .val (.long k0_515), .second, .val (.long k0_517), .second, .unset, .unset, .unset, .unset] [(.long k0_519)])
  refine w_lstore (Ls' := #[.val (.int x0), .val (.long x1), .second, .val (.long x2), .second, .val (.long x3), .second, .val (.long x4), .second, .val (.long x5), .second, .val (.long (-2147483649 : Int64)), .second, .val (.ref b482), .val (.ref b497), .val (.long k0_512), .second, .val (.long k0_515), .second, .val (.long k0_517), .second, .val (.long k0_519), .second, .unset, .unset]) X521 hx (hb hby at_183) (pc' := 185) rfl rfl ?_
  refine w_aload X521 hx (hb hby at_185) (pc' := 187) rfl rfl rfl ?_
  have f524 := f522.keep K521
  refine w_callV (argsL := []) (rest := []) (a := b497) X521 hx hZ hown rfl f524 (rm9_1 l Z a0 hw b497 T521.heap n0 zn521 b512 k0_521 rs521 f524 g_b497 g_b512 Fh521 Fs521 V521 nb512 od521) (hw _ (List.mem_of_getElem? (i := 43) rfl)) (hw _ (List.mem_of_getElem? (i := 44) rfl)) (hw _ (List.mem_of_getElem? (i := 46) rfl)) (hw _ (List.mem_of_getElem? (i := 45) rfl)) (hw _ (List.mem_of_getElem? (i := 8) rfl)) (hw _ (List.mem_of_getElem? (i := 47) rfl)) (by decide) (by decide) (W := 0) (by decide) (by decide) (by decide) (by rw [hml]; rfl) (lenOf pd_6 rfl) (Nat.le_refl _) rfl (hb hby at_187) (pc' := 190) rfl (fun T523 L523 v523 X523 hQ523 => ?_)
  obtain ⟨rfl, N523q, K523, rs523, Fh523, Fs523, V523, od523, hd523, sm523⟩ := hQ523
  have zn523 : n0 ≤ T523.heap.size := Nat.le_trans zn521 K523.1
  have N523 := Fr.app N521 N523q
  have X523 : Stand p l e room_1 s m _ below meth c T523 _ 8 54 := X523
  show Go p e below s room_1.cells room_1.slots (QL (some (.int 1)) n0) T523 (mkF m 190 #[.val (.int x0), .val (.long x1), .second, .val (.long x2), .second, .val (.long x3), .second, .val (.long x4), .second, .val (.long x5), .second, .val (.long (-2147483649 : Int64)), .second, .val (.ref b482), .val (.ref b497), .val (.long k0_512), .second, .val (.long k0_515), .second, .val (.long k0_517), .second, .val (.long k0_519), .second, .unset, .unset] [(.long k0_521)])
  refine w_lstore (Ls' := #[.val (.int x0), .val (.long x1), .second, .val (.long x2), .second, .val (.long x3), .second, .val (.long x4), .second, .val (.long x5), .second, .val (.long (-2147483649 : Int64)), .second, .val (.ref b482), .val (.ref b497), .val (.long k0_512), .second, .val (.long k0_515), .second, .val (.long k0_517), .second, .val (.long k0_519), .second, .val (.long k0_521), .second]) X523 hx (hb hby at_190) (pc' := 192) rfl rfl ?_
  obtain ⟨q0, q1, q2, q3, q4⟩ := own_five ⟨hd515, hd517, hd519, hd521⟩ (own_net P488 P489 P490 P491 P492 P493 P494 P495 P496) (fun f => by have tsm500 := sm500 f; have tsm503 := sm503 f; have tsm506 := sm506 f; have tsm509 := sm509 f; have tsm512 := sm512 f; have tsm515 := sm515 f; have tsm517 := sm517 f; have tsm519 := sm519 f; have tsm521 := sm521 f; have tsm523 := sm523 f; have tP488 := P488.sum f; have tP489 := P489.sum f; have tP490 := P490.sum f; have tP491 := P491.sum f; have tP492 := P492.sum f; have tP493 := P493.sum f; have tP494 := P494.sum f; have tP495 := P495.sum f; have tP496 := P496.sum f; clear hcap; omega)
  refine w_lload X523 hx (hb hby at_192) (pc' := 194) rfl rfl ?_
  refine w_aload X523 hx (hb hby at_194) (pc' := 196) rfl rfl rfl ?_
  refine w_iconst (v := 0) X523 hx (hb hby at_196) (pc' := 197) rfl rfl ?_
  have f525 := f514.keep K512 (ninS ne_b482_b497 (ninS ne_b482_b509 nin0))
  have f526 := f525.keep K515 (ninS ne_b482_b497 (ninS ne_b482_b512 nin0))
  have f527 := f526.keep K517 (ninS ne_b482_b497 (ninS ne_b482_b512 nin0))
  have f528 := f527.keep K519 (ninS ne_b482_b497 (ninS ne_b482_b512 nin0))
  have f529 := f528.keep K521 (ninS ne_b482_b497 (ninS ne_b482_b512 nin0))
  have f530 := f529.keep K523 (ninS ne_b482_b497 (ninS ne_b482_b512 nin0))
  refine w_laload X523 hx hZ rfl f530 (v := u493) (by decide) rfl (hb hby at_197) (pc' := 198) rfl ?_
  refine w_lcmp X523 hx (hb hby at_198) (pc' := 199) rfl ?_
  have hf199 : k0_512 = u493 := q0
  refine w_ifL_ne X523 hx (hb hby at_199) (pf := 202) (pt := 246) rfl (by decide) (by decide) (fun hc => absurd hf199 hc) (fun hc199 => ?_)
  refine w_lload X523 hx (hb hby at_202) (pc' := 204) rfl rfl ?_
  refine w_aload X523 hx (hb hby at_204) (pc' := 206) rfl rfl rfl ?_
  refine w_iconst (v := 1) X523 hx (hb hby at_206) (pc' := 207) rfl rfl ?_
  refine w_laload X523 hx hZ rfl f530 (v := u496) (by decide) rfl (hb hby at_207) (pc' := 208) rfl ?_
  refine w_lcmp X523 hx (hb hby at_208) (pc' := 209) rfl ?_
  have hf209 : k0_515 = u496 := q1
  refine w_ifL_ne X523 hx (hb hby at_209) (pf := 212) (pt := 246) rfl (by decide) (by decide) (fun hc => absurd hf209 hc) (fun hc209 => ?_)
  refine w_lload X523 hx (hb hby at_212) (pc' := 214) rfl rfl ?_
  refine w_aload X523 hx (hb hby at_214) (pc' := 216) rfl rfl rfl ?_
  refine w_iconst (v := 2) X523 hx (hb hby at_216) (pc' := 217) rfl rfl ?_
  refine w_laload X523 hx hZ rfl f530 (v := v496) (by decide) rfl (hb hby at_217) (pc' := 218) rfl ?_
  refine w_lcmp X523 hx (hb hby at_218) (pc' := 219) rfl ?_
  have hf219 : k0_517 = v496 := q2
  refine w_ifL_ne X523 hx (hb hby at_219) (pf := 222) (pt := 246) rfl (by decide) (by decide) (fun hc => absurd hf219 hc) (fun hc219 => ?_)
  refine w_lload X523 hx (hb hby at_222) (pc' := 224) rfl rfl ?_
  refine w_aload X523 hx (hb hby at_224) (pc' := 226) rfl rfl rfl ?_
  refine w_iconst (v := 3) X523 hx (hb hby at_226) (pc' := 227) rfl rfl ?_
  refine w_laload X523 hx hZ rfl f530 (v := v495) (by decide) rfl (hb hby at_227) (pc' := 228) rfl ?_
  refine w_lcmp X523 hx (hb hby at_228) (pc' := 229) rfl ?_
  have hf229 : k0_519 = v495 := q3
  refine w_ifL_ne X523 hx (hb hby at_229) (pf := 232) (pt := 246) rfl (by decide) (by decide) (fun hc => absurd hf229 hc) (fun hc229 => ?_)
  refine w_lload X523 hx (hb hby at_232) (pc' := 234) rfl rfl ?_
  refine w_aload X523 hx (hb hby at_234) (pc' := 236) rfl rfl rfl ?_
  refine w_iconst (v := 4) X523 hx (hb hby at_236) (pc' := 237) rfl rfl ?_
  refine w_laload X523 hx hZ rfl f530 (v := v494) (by decide) rfl (hb hby at_237) (pc' := 238) rfl ?_
  refine w_lcmp X523 hx (hb hby at_238) (pc' := 239) rfl ?_
  have hf239 : k0_521 = v494 := q4
  refine w_ifL_ne X523 hx (hb hby at_239) (pf := 242) (pt := 246) rfl (by decide) (by decide) (fun hc => absurd hf239 hc) (fun hc239 => ?_)
  refine w_iconst (v := 1) X523 hx (hb hby at_242) (pc' := 243) rfl rfl ?_
  refine w_goto X523 hx (hb hby at_243) (pc' := 247) (by decide) (by decide) ?_
  exact w_retZ X523 hx hret hlk (hb hby at_247) (by decide) (by decide) ⟨rfl, N523⟩
set_option maxRecDepth 65536 in
set_option maxHeartbeats 40000000 in
theorem comes_1 {Post : Tables → Env → Array Value → State → Outcome → State → Prop} (hpost : ∀ tb e args s v u, (limb_1_1.after args s (.returned v) u = true ∧ limb_1_2.after args s (.returned v) u = true ∧ True) → FrameEnd s (.returned v) u (Jvm.fieldLocs frame_1_writes args s ++ Jvm.arrayLocs frame_1_arrays args s ++ Jvm.staticLocs frame_1_statics s) 24 128 → Post tb e args s (.returned v) u) :
    ArmFor flags0 classFile x code maxLocals ret World_1 tables_1 room_1 Calls_1 rest_1 Pre_1 Post := by
  intro l hfl _ _ p e ha hc hk s m args below hf hA hF happ hP
  obtain ⟨hcalls, hrest, hpre⟩ := hP
  obtain ⟨-, -, -, hnamed, -, -, -, hat⟩ := (Spec.applies_iff hf).mp happ
  obtain ⟨hg, hn⟩ := and_e (Cond.before_iff.mp (show (Jvm.Cond.and given_1 narrow_1).before args s = true from hpre))
  obtain ⟨g1, g2⟩ := and_e hg
  obtain ⟨g3, g4⟩ := and_e g2
  obtain ⟨g5, g6⟩ := and_e g4
  obtain ⟨g7, g8⟩ := and_e g6
  obtain ⟨g9, g10⟩ := and_e g8
  obtain ⟨g11, g12⟩ := and_e g10
  obtain ⟨w0, w1, w2, w3, w4, w5, rfl⟩ : ∃ w0 w1 w2 w3 w4 w5 : Value, args = #[w0, w1, w2, w3, w4, w5] := by
    have hs : args.size = 6 := by simpa [Cond.value, given_1] using g1
    obtain ⟨L⟩ := args
    match L, hs with
    | [w0, w1, w2, w3, w4, w5], _ => exact ⟨w0, w1, w2, w3, w4, w5, rfl⟩
  have hw := fun d (hd : d ∈ tables_1) => atoms_spec (ws := Jvm.Cond.code x code maxLocals ret :: tables_1) hat d (List.mem_cons_of_mem _ hd)
  obtain ⟨i0, ei0⟩ := is_v g3
  obtain rfl : w0 = (.int i0) := Option.some.inj ei0
  obtain ⟨i1, ei1⟩ := isL_v g5
  obtain rfl : w1 = (.long i1) := Option.some.inj ei1
  obtain ⟨i2, ei2⟩ := isL_v g7
  obtain rfl : w2 = (.long i2) := Option.some.inj ei2
  obtain ⟨i3, ei3⟩ := isL_v g9
  obtain rfl : w3 = (.long i3) := Option.some.inj ei3
  obtain ⟨i4, ei4⟩ := isL_v g11
  obtain rfl : w4 = (.long i4) := Option.some.inj ei4
  obtain ⟨i5, ei5⟩ := isL_v g12
  obtain rfl : w5 = (.long i5) := Option.some.inj ei5
  have C := rm0 l s _ hw i0 i1 i2 i3 i4 i5 s.heap s.heap.size (Nat.le_refl _)
  obtain ⟨n, o, h1, h2, h3, v, L, rfl, ⟨rfl, N⟩, hq⟩ := C tables_1 p e ha hc hk s m _ below hf ((Spec.applies_iff_loose hf).mp happ).1 ⟨rfl, State.Warmed39.refl s, rfl⟩ trivial
  refine ⟨n, _, h1, h2, h3, hpost _ _ _ _ _ _ ⟨Cond.after_iff.mpr rfl, Cond.after_iff.mpr (eq_i res_at (Term.int_eval (1)) rfl), trivial⟩ ⟨hq.1, hq.2.1, (hq.2.2.sift fun y hy => Or.inr (N y hy)).mono (by decide) (by decide)⟩⟩
theorem main_1_1 : Claimed_1_1 := comes_1 fun _ _ _ _ _ _ h hF => ⟨h.1, hF⟩
theorem main_1_2 : Claimed_1_2 := comes_1 fun _ _ _ _ _ _ h hF => ⟨h.2.1, hF⟩
end Jvm.Pilot.@@N@@
namespace Jvm.Pilot.@@N@@
open Jvm Jvm.ClassFile Sem Op Lib Jvm.Free Jvm.Stand Jvm.Pilot.@@N@@.Jvm.D
/-! MADE BY PROGRAM (witnessworld.py) out of the Statement's table words and the real class files: 14 classes; the members and pool entries that the words name. The judged class is class 1, her method 3. -/
namespace start1
open Jvm.ClassFile
def u (s : String) : CpInfo := .utf8 (stringToUtf16 s)
/-- a pool by its gaps: so many unusable entries, then the entry; so many at the end -/
def gap : Nat → List CpInfo → List CpInfo
  | 0, r => r
  | n + 1, r => .unusable :: gap n r
def poolList (es : List (Nat × CpInfo)) (last : Nat) : List CpInfo := es.foldr (fun e r => gap e.1 (e.2 :: r)) (gap last [])
def pool (es : List (Nat × CpInfo)) (last : Nat) : Array CpInfo := ⟨poolList es last⟩
def fileOf (pool : Array CpInfo) (this : Nat) (attrs : Array Attribute := #[]) (ms : Array MethodInfo := #[]) (fl : Nat := 33) (sup : Nat := 0) (ifs : Array Nat := #[]) (fds : Array FieldInfo := #[]) : ClassFile where
  minorVersion := 0
  majorVersion := 65
  constantPool := pool
  accessFlags := fl
  thisClass := this
  superClass := sup
  interfaces := ifs
  fields := fds
  methods := ms
  attributes := attrs
def plain (name : String) (sup : Option ClassId) : Class where
  name := name
  kind := .ordinary
  loader := none
  accessFlags := 33
  super := sup
  interfaces := #[]
  cf := none
  fields := #[]
  methods := #[]
  instanceTypes := #[]
  staticTypes := #[]
  resolved := #[]
  callSites := []
  init := .initialized
  statics := none
  mirror := none

def pool0 : Array CpInfo := pool [(5, u "<init>"), (0, u "()V"), (1, .class_ 10), (1, u "java/lang/Object")] 113

def k0c0 : Code := { maxStack := 0, maxLocals := 1, code := object_method_1_code, exceptionTable := #[], attributes := #[] }
def k0m0 : Method := { name := "<init>", desc := "()V", sig := { parameters := [], returnType := none }, accessFlags := 1, code := some k0c0 }
/-- java/lang/Object -/
def k0 : Class := { plain "java/lang/Object" none with
  accessFlags := 33
  interfaces := #[]
  cf := some (fileOf pool0 8 #[] #[{ accessFlags := 1, nameIndex := 5, descriptorIndex := 6, attributes := #[] }] 33 0 #[] #[])
  fields := #[]
  methods := #[k0m0]
  instanceTypes := #[]
  staticTypes := #[]
  resolved := Array.replicate 124 none
  statics := none }

def pool1 : Array CpInfo := pool [(2, .class_ 4), (1, u "java/lang/Object"), (0, u "<init>"), (0, u "()V"), (0, .long 2147483647), (1, .methodref 10 11), (0, .class_ 12), (0, .nameAndType 13 14), (0, u "com/example/facet/facet/regex/MinQueue"), (0, u "add"), (0, u "(JI)V"), (0, .long 18446744071562067967), (1, .methodref 18 19), (0, .class_ 20), (0, .nameAndType 21 22), (0, u "com/example/facet/facet/regex/MinQueuePollPinLaw"), (0, u "cs"), (0, u "([JII)V"), (0, .methodref 10 24), (0, .nameAndType 5 25), (0, u "(I)V"), (0, .methodref 18 27), (0, .nameAndType 13 28), (0, u "(Lcom/example/facet/facet/regex/MinQueue;J)V"), (0, .methodref 10 30), (0, .nameAndType 31 32), (0, u "poll"), (0, u "()J"), (3, u "law"), (0, u "(IJJJJJ)Z")] 4

def k1m0 : Method := { name := "<init>", desc := "()V", sig := { parameters := [], returnType := none }, accessFlags := 2, code := none }
def k1c1 : Code := { maxStack := 4, maxLocals := 5, code := method_2_code, exceptionTable := #[], attributes := #[] }
def k1m1 : Method := { name := "cs", desc := "([JII)V", sig := { parameters := [(.array .long), .int, .int], returnType := none }, accessFlags := 10, code := some k1c1 }
def k1c2 : Code := { maxStack := 7, maxLocals := 3, code := method_3_code, exceptionTable := #[], attributes := #[] }
def k1m2 : Method := { name := "add", desc := "(Lcom/example/facet/facet/regex/MinQueue;J)V", sig := { parameters := [(.object "com/example/facet/facet/regex/MinQueue"), .long], returnType := none }, accessFlags := 10, code := some k1c2 }
def k1c3 : Code := { maxStack := 7, maxLocals := 25, code := code, exceptionTable := #[], attributes := #[] }
def k1m3 : Method := { name := "law", desc := "(IJJJJJ)Z", sig := { parameters := [.int, .long, .long, .long, .long, .long], returnType := some .boolean }, accessFlags := 9, code := some k1c3 }
/-- com/example/facet/facet/regex/MinQueuePollPinLaw -/
def k1 : Class := { plain "com/example/facet/facet/regex/MinQueuePollPinLaw" (some 0) with
  accessFlags := 49
  interfaces := #[]
  cf := some (fileOf pool1 18 #[] #[{ accessFlags := 2, nameIndex := 5, descriptorIndex := 6, attributes := #[] }, { accessFlags := 10, nameIndex := 21, descriptorIndex := 22, attributes := #[] }, { accessFlags := 10, nameIndex := 13, descriptorIndex := 28, attributes := #[] }, { accessFlags := 9, nameIndex := 36, descriptorIndex := 37, attributes := #[] }] 49 2 #[] #[])
  fields := #[]
  methods := #[k1m0, k1m1, k1m2, k1m3]
  instanceTypes := #[]
  staticTypes := #[]
  resolved := Array.replicate 42 none
  statics := none }

def pool2 : Array CpInfo := pool [(1, .methodref 2 3), (0, .class_ 4), (0, .nameAndType 5 6), (0, u "java/lang/Object"), (0, u "<init>"), (0, u "()V"), (0, .methodref 8 9), (0, .class_ 10), (0, .nameAndType 11 12), (0, u "java/lang/Math"), (0, u "max"), (0, u "(II)I"), (0, .fieldref 14 15), (0, .class_ 16), (0, .nameAndType 17 18), (0, u "com/example/facet/facet/regex/MinQueue"), (0, u "heap"), (0, u "[J"), (0, .fieldref 14 20), (0, .nameAndType 21 22), (0, u "size"), (0, u "I"), (0, .methodref 24 25), (0, .class_ 26), (0, .nameAndType 27 28), (0, u "java/util/Arrays"), (0, u "copyOf"), (0, u "([JI)[J"), (0, u "(I)V"), (5, u "add"), (0, u "(JI)V"), (0, u "poll"), (0, u "()J")] 2

def k2c0 : Code := { maxStack := 3, maxLocals := 2, code := prog_33_method_1_code, exceptionTable := #[], attributes := #[] }
def k2m0 : Method := { name := "<init>", desc := "(I)V", sig := { parameters := [.int], returnType := none }, accessFlags := 0, code := some k2c0 }
def k2c1 : Code := { maxStack := 5, maxLocals := 7, code := prog_33_method_3_code, exceptionTable := #[], attributes := #[] }
def k2m1 : Method := { name := "add", desc := "(JI)V", sig := { parameters := [.long, .int], returnType := none }, accessFlags := 0, code := some k2c1 }
def k2c2 : Code := { maxStack := 4, maxLocals := 7, code := prog_33_method_4_code, exceptionTable := #[], attributes := #[] }
def k2m2 : Method := { name := "poll", desc := "()J", sig := { parameters := [], returnType := some .long }, accessFlags := 0, code := some k2c2 }
/-- com/example/facet/facet/regex/MinQueue -/
def k2 : Class := { plain "com/example/facet/facet/regex/MinQueue" (some 0) with
  accessFlags := 48
  interfaces := #[]
  cf := some (fileOf pool2 14 #[] #[{ accessFlags := 0, nameIndex := 5, descriptorIndex := 29, attributes := #[] }, { accessFlags := 0, nameIndex := 35, descriptorIndex := 36, attributes := #[] }, { accessFlags := 0, nameIndex := 37, descriptorIndex := 38, attributes := #[] }] 48 2 #[] #[{ accessFlags := 2, nameIndex := 17, descriptorIndex := 18, attributes := #[] }, { accessFlags := 2, nameIndex := 21, descriptorIndex := 22, attributes := #[] }])
  fields := #[{ name := "heap", type := (.array .long), accessFlags := 2, slot := 0, constantValue := 0 }, { name := "size", type := .int, accessFlags := 2, slot := 1, constantValue := 0 }]
  methods := #[k2m0, k2m1, k2m2]
  instanceTypes := #[(.array .long), .int]
  staticTypes := #[]
  resolved := Array.replicate 41 none
  statics := none }

def pool3 : Array CpInfo := pool [(1, .class_ 2), (0, u "java/lang/Math"), (1, .class_ 6), (1, u "java/lang/Object"), (0, u "<init>"), (0, u "()V"), (89, .class_ 100), (1, u "java/lang/Math$RandomNumberGeneratorHolder"), (71, u "negativeZeroFloatBits"), (0, u "J"), (2, u "negativeZeroDoubleBits"), (21, u "max"), (2, u "min"), (43, u "$assertionsDisabled"), (0, u "Z"), (88, u "(II)I"), (2, u "twoToTheDoubleScaleDown"), (0, u "D"), (4, u "twoToTheDoubleScaleUp"), (9, u "E"), (3, u "PI"), (2, u "TAU"), (2, u "DEGREES_TO_RADIANS"), (0, u "RADIANS_TO_DEGREES")] 94

def k3m0 : Method := { name := "<init>", desc := "()V", sig := { parameters := [], returnType := none }, accessFlags := 2, code := none }
def k3c1 : Code := { maxStack := 2, maxLocals := 2, code := jdk_29_method_65_code, exceptionTable := #[], attributes := #[] }
def k3m1 : Method := { name := "max", desc := "(II)I", sig := { parameters := [.int, .int], returnType := some .int }, accessFlags := 9, code := some k3c1 }
def k3c2 : Code := { maxStack := 2, maxLocals := 2, code := jdk_29_method_69_code, exceptionTable := #[], attributes := #[] }
def k3m2 : Method := { name := "min", desc := "(II)I", sig := { parameters := [.int, .int], returnType := some .int }, accessFlags := 9, code := some k3c2 }
/-- java/lang/Math -/
def k3 : Class := { plain "java/lang/Math" (some 0) with
  accessFlags := 49
  interfaces := #[]
  cf := some (fileOf pool3 1 #[.nestMembers #[98]] #[{ accessFlags := 2, nameIndex := 7, descriptorIndex := 8, attributes := #[] }, { accessFlags := 9, nameIndex := 198, descriptorIndex := 335, attributes := #[] }, { accessFlags := 9, nameIndex := 201, descriptorIndex := 335, attributes := #[] }] 49 4 #[] #[{ accessFlags := 25, nameIndex := 354, descriptorIndex := 339, attributes := #[] }, { accessFlags := 25, nameIndex := 358, descriptorIndex := 339, attributes := #[] }, { accessFlags := 25, nameIndex := 361, descriptorIndex := 339, attributes := #[] }, { accessFlags := 26, nameIndex := 364, descriptorIndex := 339, attributes := #[] }, { accessFlags := 26, nameIndex := 365, descriptorIndex := 339, attributes := #[] }, { accessFlags := 26, nameIndex := 172, descriptorIndex := 173, attributes := #[] }, { accessFlags := 26, nameIndex := 176, descriptorIndex := 173, attributes := #[] }, { accessFlags := 8, nameIndex := 344, descriptorIndex := 339, attributes := #[] }, { accessFlags := 8, nameIndex := 338, descriptorIndex := 339, attributes := #[] }, { accessFlags := 4120, nameIndex := 245, descriptorIndex := 246, attributes := #[] }])
  fields := #[{ name := "E", type := .double, accessFlags := 25, slot := 0, constantValue := 0 }, { name := "PI", type := .double, accessFlags := 25, slot := 1, constantValue := 0 }, { name := "TAU", type := .double, accessFlags := 25, slot := 2, constantValue := 0 }, { name := "DEGREES_TO_RADIANS", type := .double, accessFlags := 26, slot := 3, constantValue := 0 }, { name := "RADIANS_TO_DEGREES", type := .double, accessFlags := 26, slot := 4, constantValue := 0 }, { name := "negativeZeroFloatBits", type := .long, accessFlags := 26, slot := 5, constantValue := 0 }, { name := "negativeZeroDoubleBits", type := .long, accessFlags := 26, slot := 6, constantValue := 0 }, { name := "twoToTheDoubleScaleUp", type := .double, accessFlags := 8, slot := 7, constantValue := 0 }, { name := "twoToTheDoubleScaleDown", type := .double, accessFlags := 8, slot := 8, constantValue := 0 }, { name := "$assertionsDisabled", type := .boolean, accessFlags := 4120, slot := 9, constantValue := 0 }]
  methods := #[k3m0, k3m1, k3m2]
  instanceTypes := #[]
  staticTypes := #[.double, .double, .double, .double, .double, .long, .long, .double, .double, .boolean]
  resolved := Array.replicate 460 none
  statics := none }

def pool4 : Array CpInfo := pool [(2, .class_ 4), (1, u "java/lang/Object"), (0, u "<init>"), (0, u "()V"), (7, .class_ 16), (1, u "java/util/Arrays"), (57, .class_ 76), (1, u "java/util/Arrays$NaturalOrder"), (36, .class_ 115), (1, u "java/util/Arrays$LegacyMergeSort"), (1, u "Z"), (32, .methodref 151 152), (0, .class_ 153), (0, .nameAndType 154 155), (0, u "java/lang/System"), (0, u "arraycopy"), (0, u "(Ljava/lang/Object;ILjava/lang/Object;II)V"), (146, u "copyOf"), (1, .methodref 305 306), (0, .class_ 307), (0, .nameAndType 308 309), (0, u "java/lang/Math"), (0, u "min"), (0, u "(II)I"), (65, .class_ 376), (0, u "java/util/Arrays$ArrayList"), (68, u "$assertionsDisabled"), (269, u "MIN_ARRAY_SORT_GRAN"), (0, u "I"), (2, u "INSERTIONSORT_THRESHOLD"), (152, u "([JI)[J"), (102, .class_ 976), (0, u "java/util/Arrays$ArrayItr")] 52

def k4m0 : Method := { name := "<init>", desc := "()V", sig := { parameters := [], returnType := none }, accessFlags := 2, code := none }
def k4c1 : Code := { maxStack := 6, maxLocals := 3, code := jdk_65_method_124_code, exceptionTable := #[], attributes := #[] }
def k4m1 : Method := { name := "copyOf", desc := "([JI)[J", sig := { parameters := [(.array .long), .int], returnType := some (.array .long) }, accessFlags := 9, code := some k4c1 }
/-- java/util/Arrays -/
def k4 : Class := { plain "java/util/Arrays" (some 0) with
  accessFlags := 49
  interfaces := #[]
  cf := some (fileOf pool4 14 #[.nestMembers #[975, 375, 113, 74]] #[{ accessFlags := 2, nameIndex := 5, descriptorIndex := 6, attributes := #[] }, { accessFlags := 9, nameIndex := 302, descriptorIndex := 872, attributes := #[] }] 49 2 #[] #[{ accessFlags := 26, nameIndex := 715, descriptorIndex := 716, attributes := #[] }, { accessFlags := 26, nameIndex := 719, descriptorIndex := 716, attributes := #[] }, { accessFlags := 4120, nameIndex := 445, descriptorIndex := 117, attributes := #[] }])
  fields := #[{ name := "MIN_ARRAY_SORT_GRAN", type := .int, accessFlags := 26, slot := 0, constantValue := 0 }, { name := "INSERTIONSORT_THRESHOLD", type := .int, accessFlags := 26, slot := 1, constantValue := 0 }, { name := "$assertionsDisabled", type := .boolean, accessFlags := 4120, slot := 2, constantValue := 0 }]
  methods := #[k4m0, k4m1]
  instanceTypes := #[]
  staticTypes := #[.int, .int, .boolean]
  resolved := Array.replicate 1029 none
  statics := none }

def pool5 : Array CpInfo := pool [(2, .class_ 4), (1, u "java/lang/Object"), (0, u "<init>"), (0, u "()V"), (1, .class_ 10), (1, u "java/lang/System"), (0, u "allowSecurityManager"), (0, u "I"), (16, u "cons"), (0, u "Ljava/io/Console;"), (77, .class_ 110), (1, u "java/lang/System$CallersHolder"), (43, u "initialErrStream"), (0, u "Ljava/io/PrintStream;"), (19, u "security"), (0, u "Ljava/lang/SecurityManager;"), (31, .class_ 209), (0, u "java/lang/System$1"), (7, u "props"), (0, u "Ljava/util/Properties;"), (2, u "lineSeparator"), (0, u "Ljava/lang/String;"), (96, .class_ 321), (1, u "java/lang/System$LoggerFinder"), (5, .class_ 328), (0, u "java/lang/System$Logger"), (67, u "err"), (2, u "out"), (91, u "notSupportedJnuEncoding"), (15, u "in"), (17, u "initialIn"), (0, u "Ljava/io/InputStream;"), (35, u "bootLayer"), (0, u "Ljava/lang/ModuleLayer;"), (99, .class_ 664), (0, u "java/lang/System$2"), (9, u "NEVER"), (2, u "MAYBE"), (49, u "arraycopy"), (0, u "(Ljava/lang/Object;ILjava/lang/Object;II)V"), (72, .class_ 802), (0, u "java/lang/System$Logger$Level")] 31

def k5m0 : Method := { name := "<init>", desc := "()V", sig := { parameters := [], returnType := none }, accessFlags := 2, code := none }
def k5m1 : Method := { name := "arraycopy", desc := "(Ljava/lang/Object;ILjava/lang/Object;II)V", sig := { parameters := [(.object "java/lang/Object"), .int, (.object "java/lang/Object"), .int, .int], returnType := none }, accessFlags := 265, code := none }
/-- java/lang/System -/
def k5 : Class := { plain "java/lang/System" (some 0) with
  accessFlags := 49
  interfaces := #[]
  cf := some (fileOf pool5 8 #[.nestMembers #[319, 327, 801, 108, 663, 208]] #[{ accessFlags := 2, nameIndex := 5, descriptorIndex := 6, attributes := #[] }, { accessFlags := 265, nameIndex := 727, descriptorIndex := 728, attributes := #[] }] 49 2 #[] #[{ accessFlags := 25, nameIndex := 507, descriptorIndex := 526, attributes := #[] }, { accessFlags := 25, nameIndex := 399, descriptorIndex := 155, attributes := #[] }, { accessFlags := 25, nameIndex := 396, descriptorIndex := 155, attributes := #[] }, { accessFlags := 10, nameIndex := 525, descriptorIndex := 526, attributes := #[] }, { accessFlags := 26, nameIndex := 674, descriptorIndex := 12, attributes := #[] }, { accessFlags := 26, nameIndex := 677, descriptorIndex := 12, attributes := #[] }, { accessFlags := 10, nameIndex := 11, descriptorIndex := 12, attributes := #[] }, { accessFlags := 74, nameIndex := 175, descriptorIndex := 176, attributes := #[] }, { accessFlags := 10, nameIndex := 491, descriptorIndex := 222, attributes := #[] }, { accessFlags := 74, nameIndex := 29, descriptorIndex := 30, attributes := #[] }, { accessFlags := 74, nameIndex := 154, descriptorIndex := 155, attributes := #[] }, { accessFlags := 10, nameIndex := 217, descriptorIndex := 218, attributes := #[] }, { accessFlags := 10, nameIndex := 221, descriptorIndex := 222, attributes := #[] }, { accessFlags := 8, nameIndex := 562, descriptorIndex := 563, attributes := #[] }])
  fields := #[{ name := "in", type := (.object "java/io/InputStream"), accessFlags := 25, slot := 0, constantValue := 0 }, { name := "out", type := (.object "java/io/PrintStream"), accessFlags := 25, slot := 1, constantValue := 0 }, { name := "err", type := (.object "java/io/PrintStream"), accessFlags := 25, slot := 2, constantValue := 0 }, { name := "initialIn", type := (.object "java/io/InputStream"), accessFlags := 10, slot := 3, constantValue := 0 }, { name := "NEVER", type := .int, accessFlags := 26, slot := 4, constantValue := 0 }, { name := "MAYBE", type := .int, accessFlags := 26, slot := 5, constantValue := 0 }, { name := "allowSecurityManager", type := .int, accessFlags := 10, slot := 6, constantValue := 0 }, { name := "security", type := (.object "java/lang/SecurityManager"), accessFlags := 74, slot := 7, constantValue := 0 }, { name := "notSupportedJnuEncoding", type := (.object "java/lang/String"), accessFlags := 10, slot := 8, constantValue := 0 }, { name := "cons", type := (.object "java/io/Console"), accessFlags := 74, slot := 9, constantValue := 0 }, { name := "initialErrStream", type := (.object "java/io/PrintStream"), accessFlags := 74, slot := 10, constantValue := 0 }, { name := "props", type := (.object "java/util/Properties"), accessFlags := 10, slot := 11, constantValue := 0 }, { name := "lineSeparator", type := (.object "java/lang/String"), accessFlags := 10, slot := 12, constantValue := 0 }, { name := "bootLayer", type := (.object "java/lang/ModuleLayer"), accessFlags := 8, slot := 13, constantValue := 0 }]
  methods := #[k5m0, k5m1]
  instanceTypes := #[]
  staticTypes := #[(.object "java/io/InputStream"), (.object "java/io/PrintStream"), (.object "java/io/PrintStream"), (.object "java/io/InputStream"), .int, .int, .int, (.object "java/lang/SecurityManager"), (.object "java/lang/String"), (.object "java/io/Console"), (.object "java/io/PrintStream"), (.object "java/util/Properties"), (.object "java/lang/String"), (.object "java/lang/ModuleLayer")]
  resolved := Array.replicate 834 none
  statics := none }

def pool6 : Array CpInfo := pool [(1, u "java/lang/Cloneable"), (0, .class_ 1), (0, u "java/lang/Object"), (0, .class_ 3)] 3

/-- java/lang/Cloneable -/
def k6 : Class := { plain "java/lang/Cloneable" (some 0) with
  accessFlags := 1537
  interfaces := #[]
  cf := some (fileOf pool6 2 #[] #[] 1537 4 #[] #[])
  fields := #[]
  methods := #[]
  instanceTypes := #[]
  staticTypes := #[]
  resolved := Array.replicate 8 none
  statics := none }

def pool7 : Array CpInfo := pool [(1, u "java/io/Serializable"), (0, .class_ 1), (0, u "java/lang/Object"), (0, .class_ 3)] 3

/-- java/io/Serializable -/
def k7 : Class := { plain "java/io/Serializable" (some 0) with
  accessFlags := 1537
  interfaces := #[]
  cf := some (fileOf pool7 2 #[] #[] 1537 4 #[] #[])
  fields := #[]
  methods := #[]
  instanceTypes := #[]
  staticTypes := #[]
  resolved := Array.replicate 8 none
  statics := none }

/-- the primitive byte -/
def k8 : Class := { plain "byte" none with kind := .primitive 'B', accessFlags := 0x411 }
/-- [B -/
def k9 : Class := { plain "[B" (some 0) with kind := .array 8 .byte, interfaces := #[6, 7], accessFlags := 1041 }

/-- the primitive int -/
def k10 : Class := { plain "int" none with kind := .primitive 'I', accessFlags := 0x411 }
/-- [I -/
def k11 : Class := { plain "[I" (some 0) with kind := .array 10 .int, interfaces := #[6, 7], accessFlags := 1041 }

/-- the primitive long -/
def k12 : Class := { plain "long" none with kind := .primitive 'J', accessFlags := 0x411 }
/-- [J -/
def k13 : Class := { plain "[J" (some 0) with kind := .array 12 .long, interfaces := #[6, 7], accessFlags := 1041 }

def heap : Heap := #[]
def classes : Array Class := #[k0, k1, k2, k3, k4, k5, k6, k7, k8, k9, k10, k11, k12, k13]
def interned : List (Array UInt16 × Addr) := []
def slotsUsed : Nat := 0
def theMethod : MethodId := ⟨1, 3⟩
def args0 : Array Value := #[.int 3, .long 4, .long 5, .long 6, .long 7, .long 8]
def aboutOver (below : List Frame) : State where
  vm := { classes := classes, interned := interned.toArray }
  heap := heap
  slotsUsed := slotsUsed
  threads := #[{ frames := .invoking theMethod args0 :: below }]
def below0 : List Frame := [.native { method := ⟨0, 0⟩, args := #[] }]
def about1 : State := aboutOver below0
def p0 : Program := .bare "" "" ""
def e0 : Env := launch0.env 0 0 0
theorem w_frames : about1.frames = Frame.invoking theMethod args0 :: below0 := rfl
set_option maxRecDepth 65536 in
theorem w_args : argsFit about1.vm theMethod args0 = true := by decide +kernel
set_option maxRecDepth 65536 in
theorem w_heap : heapFits about1 = true := by decide +kernel
set_option maxRecDepth 65536 in
theorem w_runnable : about1.curStatus? = some .runnable := by decide +kernel
set_option maxRecDepth 65536 in
theorem w_alone : about1.alone = true := by decide +kernel
set_option maxRecDepth 65536 in
theorem w_named : about1.methodNamed? x = some theMethod := by decide +kernel
set_option maxRecDepth 65536 in
theorem w_hears : about1.hears theMethod below0 = true := by decide +kernel
set_option maxRecDepth 65536 in
theorem w_ripe : about1.ripe theMethod args0 below0 = true := by decide +kernel
theorem w_running : about1.status = .running := rfl
set_option maxRecDepth 65536 in
theorem w_room : about1.hasRoom e0.platform room_1 = true :=
  launch0.hasRoom_least _ room_1 (by decide +kernel) (by decide +kernel) (by decide +kernel) (by decide +kernel) (by decide +kernel) (by decide +kernel)
theorem allAtoms_all (ts : List Jvm.Cond) (a : Array Jvm.Value) (st : Jvm.State) : (allAtoms ts).before a st = ts.all (fun c => c.before a st) := by
  induction ts with
  | nil => rfl
  | cons c t ih =>
    show (Jvm.Cond.and c (allAtoms t)).before a st = _
    rw [Jvm.Cond.before_and, ih, List.all_cons]
def words1 : List Jvm.Cond := Jvm.Cond.code x code maxLocals ret :: tables_1
/-- a 'code' word, met by the world's own term for the bytes: nothing is compared byte by byte -/
theorem code_word {y : MethodName} {bytes : ByteArray} {mx : Nat} {rt : Option FieldType} {a : Array Value} {s : State} {m : MethodId} {meth : Method} {c : Code} (h1 : s.methodNamed? y = some m) (h2 : s.vm.method? m = some meth) (h3 : meth.code = some c) (h4 : c.code = bytes)
    (h5 : (c.maxLocals == mx && c.exceptionTable.isEmpty && decide (c.maxStack ≤ mostOperands) && decide (meth.sig.returnType = rt) && !meth.locks && decide (parseMethodDescriptor y.desc = some meth.sig)) = true) : (Jvm.Cond.code y bytes mx rt).before a s = true := by
  simp only [Bool.and_eq_true, beq_iff_eq, Bool.not_eq_true', decide_eq_true_eq] at h5
  obtain ⟨⟨⟨⟨⟨g1, g2⟩, g3⟩, g4⟩, g5⟩, g6⟩ := h5
  simp [Cond.before, Cond.holds, Cond.value, h1, h2, h3, h4, g1, g2, g3, g4, g5, g6]
def isCode : Jvm.Cond → Bool
  | .code _ _ _ _ => true
  | _ => false
theorem all_split {L : List Jvm.Cond} {P : Jvm.Cond → Bool} (h1 : L.all (fun c => isCode c || P c) = true) (h2 : ∀ c ∈ L.filter isCode, P c = true) : L.all P = true := by
  refine List.all_eq_true.mpr fun c hc => ?_
  have h := List.all_eq_true.mp h1 c hc
  rcases Bool.eq_false_or_eq_true (isCode c) with hi | hi
  · exact h2 c (List.mem_filter.mpr ⟨hc, hi⟩)
  · simpa [hi] using h
set_option maxRecDepth 65536 in
theorem w_c0 : (Jvm.Cond.code x code maxLocals ret).before args0 about1 = true := code_word (m := ⟨1, 3⟩) (meth := k1m3) (c := k1c3) (by decide +kernel) rfl rfl rfl (by decide +kernel)
set_option maxRecDepth 65536 in
theorem w_c1 : (Jvm.Cond.code ({ cls := "com/example/facet/facet/regex/MinQueuePollPinLaw", name := "cs", desc := "([JII)V" } : Jvm.MethodName) method_2_code (5 : Nat) (Option.none : Option Jvm.ClassFile.FieldType)).before args0 about1 = true := code_word (m := ⟨1, 1⟩) (meth := k1m1) (c := k1c1) (by decide +kernel) rfl rfl rfl (by decide +kernel)
set_option maxRecDepth 65536 in
theorem w_c2 : (Jvm.Cond.code ({ cls := "com/example/facet/facet/regex/MinQueue", name := "<init>", desc := "(I)V" } : Jvm.MethodName) prog_33_method_1_code (2 : Nat) (Option.none : Option Jvm.ClassFile.FieldType)).before args0 about1 = true := code_word (m := ⟨2, 0⟩) (meth := k2m0) (c := k2c0) (by decide +kernel) rfl rfl rfl (by decide +kernel)
set_option maxRecDepth 65536 in
theorem w_c3 : (Jvm.Cond.code ({ cls := "java/lang/Object", name := "<init>", desc := "()V" } : Jvm.MethodName) object_method_1_code (1 : Nat) (Option.none : Option Jvm.ClassFile.FieldType)).before args0 about1 = true := code_word (m := ⟨0, 0⟩) (meth := k0m0) (c := k0c0) (by decide +kernel) rfl rfl rfl (by decide +kernel)
set_option maxRecDepth 65536 in
theorem w_c4 : (Jvm.Cond.code ({ cls := "java/lang/Math", name := "max", desc := "(II)I" } : Jvm.MethodName) jdk_29_method_65_code (2 : Nat) (Option.some Jvm.ClassFile.FieldType.int)).before args0 about1 = true := code_word (m := ⟨3, 1⟩) (meth := k3m1) (c := k3c1) (by decide +kernel) rfl rfl rfl (by decide +kernel)
set_option maxRecDepth 65536 in
theorem w_c5 : (Jvm.Cond.code ({ cls := "com/example/facet/facet/regex/MinQueuePollPinLaw", name := "add", desc := "(Lcom/example/facet/facet/regex/MinQueue;J)V" } : Jvm.MethodName) method_3_code (3 : Nat) (Option.none : Option Jvm.ClassFile.FieldType)).before args0 about1 = true := code_word (m := ⟨1, 2⟩) (meth := k1m2) (c := k1c2) (by decide +kernel) rfl rfl rfl (by decide +kernel)
set_option maxRecDepth 65536 in
theorem w_c6 : (Jvm.Cond.code ({ cls := "com/example/facet/facet/regex/MinQueue", name := "add", desc := "(JI)V" } : Jvm.MethodName) prog_33_method_3_code (7 : Nat) (Option.none : Option Jvm.ClassFile.FieldType)).before args0 about1 = true := code_word (m := ⟨2, 1⟩) (meth := k2m1) (c := k2c1) (by decide +kernel) rfl rfl rfl (by decide +kernel)
set_option maxRecDepth 65536 in
theorem w_c7 : (Jvm.Cond.code ({ cls := "java/util/Arrays", name := "copyOf", desc := "([JI)[J" } : Jvm.MethodName) jdk_65_method_124_code (3 : Nat) (Option.some (Jvm.ClassFile.FieldType.array Jvm.ClassFile.FieldType.long))).before args0 about1 = true := code_word (m := ⟨4, 1⟩) (meth := k4m1) (c := k4c1) (by decide +kernel) rfl rfl rfl (by decide +kernel)
set_option maxRecDepth 65536 in
theorem w_c8 : (Jvm.Cond.code ({ cls := "java/lang/Math", name := "min", desc := "(II)I" } : Jvm.MethodName) jdk_29_method_69_code (2 : Nat) (Option.some Jvm.ClassFile.FieldType.int)).before args0 about1 = true := code_word (m := ⟨3, 2⟩) (meth := k3m2) (c := k3c2) (by decide +kernel) rfl rfl rfl (by decide +kernel)
set_option maxRecDepth 65536 in
theorem w_c9 : (Jvm.Cond.code ({ cls := "com/example/facet/facet/regex/MinQueue", name := "poll", desc := "()J" } : Jvm.MethodName) prog_33_method_4_code (7 : Nat) (Option.some Jvm.ClassFile.FieldType.long)).before args0 about1 = true := code_word (m := ⟨2, 2⟩) (meth := k2m2) (c := k2c2) (by decide +kernel) rfl rfl rfl (by decide +kernel)
def codes1 : List Jvm.Cond := [Jvm.Cond.code x code maxLocals ret, Jvm.Cond.code ({ cls := "com/example/facet/facet/regex/MinQueuePollPinLaw", name := "cs", desc := "([JII)V" } : Jvm.MethodName) method_2_code (5 : Nat) (Option.none : Option Jvm.ClassFile.FieldType), Jvm.Cond.code ({ cls := "com/example/facet/facet/regex/MinQueue", name := "<init>", desc := "(I)V" } : Jvm.MethodName) prog_33_method_1_code (2 : Nat) (Option.none : Option Jvm.ClassFile.FieldType), Jvm.Cond.code ({ cls := "java/lang/Object", name := "<init>", desc := "()V" } : Jvm.MethodName) object_method_1_code (1 : Nat) (Option.none : Option Jvm.ClassFile.FieldType), Jvm.Cond.code ({ cls := "java/lang/Math", name := "max", desc := "(II)I" } : Jvm.MethodName) jdk_29_method_65_code (2 : Nat) (Option.some Jvm.ClassFile.FieldType.int), Jvm.Cond.code ({ cls := "com/example/facet/facet/regex/MinQueuePollPinLaw", name := "add", desc := "(Lcom/example/facet/facet/regex/MinQueue;J)V" } : Jvm.MethodName) method_3_code (3 : Nat) (Option.none : Option Jvm.ClassFile.FieldType), Jvm.Cond.code ({ cls := "com/example/facet/facet/regex/MinQueue", name := "add", desc := "(JI)V" } : Jvm.MethodName) prog_33_method_3_code (7 : Nat) (Option.none : Option Jvm.ClassFile.FieldType), Jvm.Cond.code ({ cls := "java/util/Arrays", name := "copyOf", desc := "([JI)[J" } : Jvm.MethodName) jdk_65_method_124_code (3 : Nat) (Option.some (Jvm.ClassFile.FieldType.array Jvm.ClassFile.FieldType.long)), Jvm.Cond.code ({ cls := "java/lang/Math", name := "min", desc := "(II)I" } : Jvm.MethodName) jdk_29_method_69_code (2 : Nat) (Option.some Jvm.ClassFile.FieldType.int), Jvm.Cond.code ({ cls := "com/example/facet/facet/regex/MinQueue", name := "poll", desc := "()J" } : Jvm.MethodName) prog_33_method_4_code (7 : Nat) (Option.some Jvm.ClassFile.FieldType.long)]
set_option maxRecDepth 65536 in
theorem codes_eq : words1.filter isCode = codes1 := rfl
theorem w_codes : ∀ c ∈ words1.filter isCode, c.before args0 about1 = true := by
  rw [codes_eq]
  intro c hc
  simp only [codes1, List.mem_cons, List.not_mem_nil, or_false] at hc
  rcases hc with rfl | rfl | rfl | rfl | rfl | rfl | rfl | rfl | rfl | rfl
  · exact w_c0
  · exact w_c1
  · exact w_c2
  · exact w_c3
  · exact w_c4
  · exact w_c5
  · exact w_c6
  · exact w_c7
  · exact w_c8
  · exact w_c9
set_option maxRecDepth 65536 in
theorem w_t1 : (words1.take 24).all (fun c => isCode c || c.before args0 about1) = true := by decide +kernel
set_option maxRecDepth 65536 in
theorem w_t2 : ((words1.drop 24).take 24).all (fun c => isCode c || c.before args0 about1) = true := by decide +kernel
set_option maxRecDepth 65536 in
theorem w_t3 : ((words1.drop 24).drop 24).all (fun c => isCode c || c.before args0 about1) = true := by decide +kernel
theorem w_tables : (allAtoms (Jvm.Cond.code x code maxLocals ret :: tables_1)).before args0 about1 = true := by
  rw [allAtoms_all]
  show words1.all (fun c => c.before args0 about1) = true
  refine all_split ?_ w_codes
  rw [← List.take_append_drop 24 words1, List.all_append, w_t1, ← List.take_append_drop 24 (words1.drop 24), List.all_append, w_t2, w_t3]
  rfl
set_option maxRecDepth 65536 in
theorem w_case : (Jvm.Cond.and given_1 narrow_1).before args0 about1 = true := by decide +kernel
theorem w_applies : (headSpec (Jvm.Cond.code x code maxLocals ret :: tables_1) room_1).applies x e0.platform about1 = true :=
  (Spec.applies_iff w_frames).mpr ⟨w_running, w_runnable, w_alone, w_named, w_hears, w_ripe, w_room, w_tables⟩
theorem atStart : AtStart classFile x code maxLocals ret World_1 tables_1 room_1 Calls_1 rest_1 Pre_1 launch0 p0 e0 about1 theMethod args0 below0 :=
  ⟨lists_1, trivial, launch0.admits_env _ _ _, launch0.least_env, fairChoices_fair.cas, fairChoices_fair.clock, w_frames, w_args, w_heap, w_applies, trivial, trivial, w_case⟩
end start1
theorem witness_1 : WitnessClaimed_1 := ⟨start1.p0, start1.e0, start1.about1, start1.theMethod, start1.args0, start1.below0, start1.atStart⟩
end Jvm.Pilot.@@N@@
