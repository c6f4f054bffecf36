import JvmDerived
import JvmDerived.Pilot.@@N@@Statement
import JvmDerived.Pilot.@@N@@Code
set_option linter.unusedVariables false
set_option linter.unusedSimpArgs false
@@BLOCK:NumsL.lean.txt@@
namespace Jvm.Pilot.@@N@@
open Jvm Jvm.ClassFile Sem Op Lib Jvm.Free Jvm.Stand Jvm.LawKit Jvm.RoadKit Bundle Jvm.Pilot.@@N@@.Jvm.D
section OwnKit
variable {p : Program} {l : Launch} {e : Env} {R : Room} {s : State} {m : MethodId} {args : Array Value} {below : List Frame} {meth : Method} {c : Code} {T T' : State} {locs : List Loc} {cells slots : Nat} {Z : State} {a0 : Array Value} {h h' : Heap} {cm sm : Nat} {Q : Option Value → Heap → List Loc → Prop} {pc pc' : Nat} {Ls Ls' : Array Slot} {St : List Value}
/-- the walk's goal: from this frame the method comes to its end, and Q holds of what it leaves -/
def Go (p : Program) (e : Env) (below : List Frame) (s : State) (cm sm : Nat) (Q : Option Value → Heap → List Loc → Prop) (T : State) (g : JFrame) : Prop :=
  ∃ s₂ o, Steps p.tables e below (T.setTop g) s₂ ∧ s₂.status = .running ∧ Ended s₂ below o ∧ ∃ v L, o = .returned v ∧ Q v s₂.heap L ∧ FrameEnd s o s₂ L cm sm
theorem Go.st {g g' : JFrame} (q : ∀ t, Steps p.tables e below (T'.setTop g') t → Steps p.tables e below (T.setTop g) t) (k : Go p e below s cm sm Q T' g') : Go p e below s cm sm Q T g := by
  obtain ⟨s₂, o, st, r⟩ := k
  exact ⟨s₂, o, q _ st, r⟩
theorem Go.weak {g : JFrame} {Q' : Option Value → Heap → List Loc → Prop} (k : Go p e below s cm sm Q T g) (q : ∀ v h L, Q v h L → Q' v h L) : Go p e below s cm sm Q' T g := by
  obtain ⟨s₂, o, st, r1, r2, v, L, r3, r4, r5⟩ := k
  exact ⟨s₂, o, st, r1, r2, v, L, r3, q _ _ _ r4, r5⟩
/-- a contract -/
def Con (l : Launch) (Z : State) (y : MethodName) (bytes : ByteArray) (maxL : Nat) (ret : Option FieldType) (rm : Room) (as' : Array Value) (h : Heap) (Q : Option Value → Heap → List Loc → Prop) : Prop :=
  ∀ ws : List Jvm.Cond, MetFree l y (head1 (Jvm.Cond.code y bytes maxL ret :: ws) rm) (fun a U => a = as' ∧ Z.Warmed39 U.vm ∧ U.heap = h) (fun _ _ _ _ _ => True) (fun _ U o U' => ∃ v L, o = .returned v ∧ Q v U'.heap L ∧ FrameEnd U o U' L rm.cells rm.slots)
theorem Con.of {y : MethodName} {bytes : ByteArray} {maxL : Nat} {ret : Option FieldType} {rm : Room} {as' : Array Value} (hpl : plainFor y = true)
    (body : ∀ (p : Program) (e : Env) (s : State) (m : MethodId) (below : List Frame) (meth : Method) (c : Code) (T : State), Stand p l e rm s m as' below meth c T [] 0 0 → p.tables.exec = Jvm.exec → Z.Warmed39 s.vm → c.code = bytes → c.maxLocals = maxL → s.vm.findClass y.cls = some m.cls → meth.name = y.name → meth.sig.returnType = ret → meth.locks = false → T.heap = h → Go p e below s rm.cells rm.slots Q T (entryFrame m as' maxL)) :
    Con l Z y bytes maxL ret rm as' h Q := by
  intro ws
  refine MetFree.of_bodySF hpl hisR ?_
  intro p e s m args below meth c s₁ Bd hml0 hP hK
  obtain ⟨rfl, hZ, hh⟩ := hP
  exact body p e s m below meth c s₁ (Stand.of_body Bd) Bd.exec hZ Bd.bytes hml0 (findClass_of_methodNamed Bd.named) (name_of_methodNamed Bd.named Bd.method).1 Bd.returns Bd.notSynchronized (by rw [← hh, Bd.state]; rfl)
theorem Con.weak {y : MethodName} {bytes : ByteArray} {maxL : Nat} {ret : Option FieldType} {rm : Room} {as' : Array Value} {Q' : Option Value → Heap → List Loc → Prop} (C : Con l Z y bytes maxL ret rm as' h Q) (q : ∀ v h L, Q v h L → Q' v h L) : Con l Z y bytes maxL ret rm as' h Q' := by
  intro ws p e ha hc hk s m args below hf happ hP hK
  obtain ⟨n, o, h1, h2, h3, v, L, r3, r4, r5⟩ := C ws p e ha hc hk s m args below hf happ hP hK
  exact ⟨n, o, h1, h2, h3, v, L, r3, q _ _ _ r4, r5⟩
/-- what a body that writes nothing leaves -/
abbrev QP (v0 : Option Value) (h0 : Heap) (n0 : Nat) : Option Value → Heap → List Loc → Prop := fun v h L => v = v0 ∧ Fr n0 L ∧ h = h0
/-- what a law leaves -/
abbrev QL (v0 : Option Value) (n0 : Nat) : Option Value → Heap → List Loc → Prop := fun v _ L => v = v0 ∧ Fr n0 L
/-- iushr, lushr -/
def jushr (x y : Int32) : Int32 := (x.toUInt32 >>> (y &&& 31).toUInt32).toInt32
def jlushr (x : Int64) (y : Int32) : Int64 := (x.toUInt64 >>> (y &&& 0x3f).toInt64.toUInt64).toInt64
theorem w_iloadN (X : Stand p l e R s m args below meth c T locs cells slots) (hx : p.tables.exec = Jvm.exec) {k : Fin 4} {v : Int32} (hd : decode c.code pc = .ok (.iload_n k, 1)) (hp : pc + 1 = pc') (hl : Ls[k.val]? = some (.val (.int v)))
    (kk : Go p e below s cm sm Q T (mkF m pc' Ls (.int v :: St))) : Go p e below s cm sm Q T (mkF m pc Ls (St)) := by
  subst hp
  exact Go.st (fun t q => XS.iloadN (g := mkF m pc Ls (St)) X.here hx rfl hd hl q) kk
theorem w_iload (X : Stand p l e R s m args below meth c T locs cells slots) (hx : p.tables.exec = Jvm.exec) {k : Nat} {v : Int32} (hd : decode c.code pc = .ok (.iload k, 2)) (hp : pc + 2 = pc') (hl : Ls[k]? = some (.val (.int v)))
    (kk : Go p e below s cm sm Q T (mkF m pc' Ls (.int v :: St))) : Go p e below s cm sm Q T (mkF m pc Ls (St)) := by
  subst hp
  exact Go.st (fun t q => XS.iload (g := mkF m pc Ls (St)) X.here hx rfl hd hl q) kk
theorem w_istoreN (X : Stand p l e R s m args below meth c T locs cells slots) (hx : p.tables.exec = Jvm.exec) {k : Fin 4} {x : Int32} (hd : decode c.code pc = .ok (.istore_n k, 1)) (hp : pc + 1 = pc') (hl : storeLocals Ls k.val (.int x) = some Ls')
    (kk : Go p e below s cm sm Q T (mkF m pc' Ls' (St))) : Go p e below s cm sm Q T (mkF m pc Ls (.int x :: St)) := by
  subst hp
  exact Go.st (fun t q => XS.istoreN (g := mkF m pc Ls (.int x :: St)) X.here hx rfl hd rfl hl q) kk
theorem w_istore (X : Stand p l e R s m args below meth c T locs cells slots) (hx : p.tables.exec = Jvm.exec) {k : Nat} {x : Int32} (hd : decode c.code pc = .ok (.istore k, 2)) (hp : pc + 2 = pc') (hl : storeLocals Ls k (.int x) = some Ls')
    (kk : Go p e below s cm sm Q T (mkF m pc' Ls' (St))) : Go p e below s cm sm Q T (mkF m pc Ls (.int x :: St)) := by
  subst hp
  exact Go.st (fun t q => XS.istore (g := mkF m pc Ls (.int x :: St)) X.here hx rfl hd rfl hl q) kk
theorem w_lloadN (X : Stand p l e R s m args below meth c T locs cells slots) (hx : p.tables.exec = Jvm.exec) {k : Fin 4} {v : Int64} (hd : decode c.code pc = .ok (.lload_n k, 1)) (hp : pc + 1 = pc') (hl : Ls[k.val]? = some (.val (.long v)))
    (kk : Go p e below s cm sm Q T (mkF m pc' Ls (.long v :: St))) : Go p e below s cm sm Q T (mkF m pc Ls (St)) := by
  subst hp
  exact Go.st (fun t q => XS.lloadN (g := mkF m pc Ls (St)) X.here hx rfl hd hl q) kk
theorem w_lload (X : Stand p l e R s m args below meth c T locs cells slots) (hx : p.tables.exec = Jvm.exec) {k : Nat} {v : Int64} (hd : decode c.code pc = .ok (.lload k, 2)) (hp : pc + 2 = pc') (hl : Ls[k]? = some (.val (.long v)))
    (kk : Go p e below s cm sm Q T (mkF m pc' Ls (.long v :: St))) : Go p e below s cm sm Q T (mkF m pc Ls (St)) := by
  subst hp
  exact Go.st (fun t q => XS.lload (g := mkF m pc Ls (St)) X.here hx rfl hd hl q) kk
theorem w_lstoreN (X : Stand p l e R s m args below meth c T locs cells slots) (hx : p.tables.exec = Jvm.exec) {k : Fin 4} {x : Int64} (hd : decode c.code pc = .ok (.lstore_n k, 1)) (hp : pc + 1 = pc') (hl : storeLocals Ls k.val (.long x) = some Ls')
    (kk : Go p e below s cm sm Q T (mkF m pc' Ls' (St))) : Go p e below s cm sm Q T (mkF m pc Ls (.long x :: St)) := by
  subst hp
  exact Go.st (fun t q => XS.lstoreN (g := mkF m pc Ls (.long x :: St)) X.here hx rfl hd rfl hl q) kk
theorem w_lstore (X : Stand p l e R s m args below meth c T locs cells slots) (hx : p.tables.exec = Jvm.exec) {k : Nat} {x : Int64} (hd : decode c.code pc = .ok (.lstore k, 2)) (hp : pc + 2 = pc') (hl : storeLocals Ls k (.long x) = some Ls')
    (kk : Go p e below s cm sm Q T (mkF m pc' Ls' (St))) : Go p e below s cm sm Q T (mkF m pc Ls (.long x :: St)) := by
  subst hp
  exact Go.st (fun t q => XS.lstore (g := mkF m pc Ls (.long x :: St)) X.here hx rfl hd rfl hl q) kk
theorem w_aloadN (X : Stand p l e R s m args below meth c T locs cells slots) (hx : p.tables.exec = Jvm.exec) {k : Fin 4} {v : Value} (hd : decode c.code pc = .ok (.aload_n k, 1)) (hp : pc + 1 = pc') (hl : Ls[k.val]? = some (.val v)) (hv : v.isRef = true)
    (kk : Go p e below s cm sm Q T (mkF m pc' Ls (v :: St))) : Go p e below s cm sm Q T (mkF m pc Ls (St)) := by
  subst hp
  exact Go.st (fun t q => XS.aloadN (g := mkF m pc Ls (St)) X.here hx rfl hd hl hv q) kk
theorem w_aload (X : Stand p l e R s m args below meth c T locs cells slots) (hx : p.tables.exec = Jvm.exec) {k : Nat} {v : Value} (hd : decode c.code pc = .ok (.aload k, 2)) (hp : pc + 2 = pc') (hl : Ls[k]? = some (.val v)) (hv : v.isRef = true)
    (kk : Go p e below s cm sm Q T (mkF m pc' Ls (v :: St))) : Go p e below s cm sm Q T (mkF m pc Ls (St)) := by
  subst hp
  exact Go.st (fun t q => XS.aload (g := mkF m pc Ls (St)) X.here hx rfl hd hl hv q) kk
theorem w_astoreN (X : Stand p l e R s m args below meth c T locs cells slots) (hx : p.tables.exec = Jvm.exec) {k : Fin 4} {x : Value} (hd : decode c.code pc = .ok (.astore_n k, 1)) (hp : pc + 1 = pc') (hv : x.isRef = true) (hl : storeLocals Ls k.val x = some Ls')
    (kk : Go p e below s cm sm Q T (mkF m pc' Ls' (St))) : Go p e below s cm sm Q T (mkF m pc Ls (x :: St)) := by
  subst hp
  exact Go.st (fun t q => XS.astoreN (g := mkF m pc Ls (x :: St)) X.here hx rfl hd rfl hv hl q) kk
theorem w_astore (X : Stand p l e R s m args below meth c T locs cells slots) (hx : p.tables.exec = Jvm.exec) {k : Nat} {x : Value} (hd : decode c.code pc = .ok (.astore k, 2)) (hp : pc + 2 = pc') (hv : x.isRef = true) (hl : storeLocals Ls k x = some Ls')
    (kk : Go p e below s cm sm Q T (mkF m pc' Ls' (St))) : Go p e below s cm sm Q T (mkF m pc Ls (x :: St)) := by
  subst hp
  exact Go.st (fun t q => XS.astore (g := mkF m pc Ls (x :: St)) X.here hx rfl hd rfl hv hl q) kk
theorem w_iconst (X : Stand p l e R s m args below meth c T locs cells slots) (hx : p.tables.exec = Jvm.exec) {i : Int} {v : Int32} (hd : decode c.code pc = .ok (.iconst i, 1)) (hp : pc + 1 = pc') (hv : Int32.ofInt i = v)
    (kk : Go p e below s cm sm Q T (mkF m pc' Ls (.int v :: St))) : Go p e below s cm sm Q T (mkF m pc Ls St) := by
  subst hp hv
  exact Go.st (fun t q => XS.iconst (g := mkF m pc Ls St) X.here hx rfl hd q) kk
theorem w_bipush (X : Stand p l e R s m args below meth c T locs cells slots) (hx : p.tables.exec = Jvm.exec) {i : Int} {v : Int32} (hd : decode c.code pc = .ok (.bipush i, 2)) (hp : pc + 2 = pc') (hv : (Int8.ofInt i).toInt32 = v)
    (kk : Go p e below s cm sm Q T (mkF m pc' Ls (.int v :: St))) : Go p e below s cm sm Q T (mkF m pc Ls St) := by
  subst hp hv
  exact Go.st (fun t q => XS.bipush (g := mkF m pc Ls St) X.here hx rfl hd q) kk
theorem w_sipush (X : Stand p l e R s m args below meth c T locs cells slots) (hx : p.tables.exec = Jvm.exec) {i : Int} {v : Int32} (hd : decode c.code pc = .ok (.sipush i, 3)) (hp : pc + 3 = pc') (hv : (Int16.ofInt i).toInt32 = v)
    (kk : Go p e below s cm sm Q T (mkF m pc' Ls (.int v :: St))) : Go p e below s cm sm Q T (mkF m pc Ls St) := by
  subst hp hv
  exact Go.st (fun t q => XS.sipush (g := mkF m pc Ls St) X.here hx rfl hd q) kk
theorem w_lconst (X : Stand p l e R s m args below meth c T locs cells slots) (hx : p.tables.exec = Jvm.exec) {i : Fin 2} {v : Int64} (hd : decode c.code pc = .ok (.lconst i, 1)) (hp : pc + 1 = pc') (hv : Int64.ofNat i = v)
    (kk : Go p e below s cm sm Q T (mkF m pc' Ls (.long v :: St))) : Go p e below s cm sm Q T (mkF m pc Ls St) := by
  subst hp hv
  exact Go.st (fun t q => XS.lconst (g := mkF m pc Ls St) X.here hx rfl hd q) kk
theorem w_aconstNull (X : Stand p l e R s m args below meth c T locs cells slots) (hx : p.tables.exec = Jvm.exec)  (hd : decode c.code pc = .ok (.aconst_null, 1)) (hp : pc + 1 = pc')
    (kk : Go p e below s cm sm Q T (mkF m pc' Ls (.null :: St))) : Go p e below s cm sm Q T (mkF m pc Ls (St)) := by
  subst hp
  exact Go.st (fun t q => XS.aconstNull (g := mkF m pc Ls (St)) X.here hx rfl hd q) kk
theorem w_iadd (X : Stand p l e R s m args below meth c T locs cells slots) (hx : p.tables.exec = Jvm.exec) {x y : Int32} (hd : decode c.code pc = .ok (.iadd, 1)) (hp : pc + 1 = pc')
    (kk : Go p e below s cm sm Q T (mkF m pc' Ls (.int (x + y) :: St))) : Go p e below s cm sm Q T (mkF m pc Ls (.int y :: .int x :: St)) := by
  subst hp
  exact Go.st (fun t q => XS.iadd (g := mkF m pc Ls (.int y :: .int x :: St)) X.here hx rfl hd rfl q) kk
theorem w_ladd (X : Stand p l e R s m args below meth c T locs cells slots) (hx : p.tables.exec = Jvm.exec) {x y : Int64} (hd : decode c.code pc = .ok (.ladd, 1)) (hp : pc + 1 = pc')
    (kk : Go p e below s cm sm Q T (mkF m pc' Ls (.long (x + y) :: St))) : Go p e below s cm sm Q T (mkF m pc Ls (.long y :: .long x :: St)) := by
  subst hp
  exact Go.st (fun t q => XS.ladd (g := mkF m pc Ls (.long y :: .long x :: St)) X.here hx rfl hd rfl q) kk
theorem w_isub (X : Stand p l e R s m args below meth c T locs cells slots) (hx : p.tables.exec = Jvm.exec) {x y : Int32} (hd : decode c.code pc = .ok (.isub, 1)) (hp : pc + 1 = pc')
    (kk : Go p e below s cm sm Q T (mkF m pc' Ls (.int (x - y) :: St))) : Go p e below s cm sm Q T (mkF m pc Ls (.int y :: .int x :: St)) := by
  subst hp
  exact Go.st (fun t q => XS.isub (g := mkF m pc Ls (.int y :: .int x :: St)) X.here hx rfl hd rfl q) kk
theorem w_lsub (X : Stand p l e R s m args below meth c T locs cells slots) (hx : p.tables.exec = Jvm.exec) {x y : Int64} (hd : decode c.code pc = .ok (.lsub, 1)) (hp : pc + 1 = pc')
    (kk : Go p e below s cm sm Q T (mkF m pc' Ls (.long (x - y) :: St))) : Go p e below s cm sm Q T (mkF m pc Ls (.long y :: .long x :: St)) := by
  subst hp
  exact Go.st (fun t q => XS.lsub (g := mkF m pc Ls (.long y :: .long x :: St)) X.here hx rfl hd rfl q) kk
theorem w_imul (X : Stand p l e R s m args below meth c T locs cells slots) (hx : p.tables.exec = Jvm.exec) {x y : Int32} (hd : decode c.code pc = .ok (.imul, 1)) (hp : pc + 1 = pc')
    (kk : Go p e below s cm sm Q T (mkF m pc' Ls (.int (x * y) :: St))) : Go p e below s cm sm Q T (mkF m pc Ls (.int y :: .int x :: St)) := by
  subst hp
  exact Go.st (fun t q => XS.imul (g := mkF m pc Ls (.int y :: .int x :: St)) X.here hx rfl hd rfl q) kk
theorem w_lmul (X : Stand p l e R s m args below meth c T locs cells slots) (hx : p.tables.exec = Jvm.exec) {x y : Int64} (hd : decode c.code pc = .ok (.lmul, 1)) (hp : pc + 1 = pc')
    (kk : Go p e below s cm sm Q T (mkF m pc' Ls (.long (x * y) :: St))) : Go p e below s cm sm Q T (mkF m pc Ls (.long y :: .long x :: St)) := by
  subst hp
  exact Go.st (fun t q => XS.lmul (g := mkF m pc Ls (.long y :: .long x :: St)) X.here hx rfl hd rfl q) kk
theorem w_iand (X : Stand p l e R s m args below meth c T locs cells slots) (hx : p.tables.exec = Jvm.exec) {x y : Int32} (hd : decode c.code pc = .ok (.iand, 1)) (hp : pc + 1 = pc')
    (kk : Go p e below s cm sm Q T (mkF m pc' Ls (.int (x &&& y) :: St))) : Go p e below s cm sm Q T (mkF m pc Ls (.int y :: .int x :: St)) := by
  subst hp
  exact Go.st (fun t q => XS.iand (g := mkF m pc Ls (.int y :: .int x :: St)) X.here hx rfl hd rfl q) kk
theorem w_land (X : Stand p l e R s m args below meth c T locs cells slots) (hx : p.tables.exec = Jvm.exec) {x y : Int64} (hd : decode c.code pc = .ok (.land, 1)) (hp : pc + 1 = pc')
    (kk : Go p e below s cm sm Q T (mkF m pc' Ls (.long (x &&& y) :: St))) : Go p e below s cm sm Q T (mkF m pc Ls (.long y :: .long x :: St)) := by
  subst hp
  exact Go.st (fun t q => XS.land (g := mkF m pc Ls (.long y :: .long x :: St)) X.here hx rfl hd rfl q) kk
theorem w_ior (X : Stand p l e R s m args below meth c T locs cells slots) (hx : p.tables.exec = Jvm.exec) {x y : Int32} (hd : decode c.code pc = .ok (.ior, 1)) (hp : pc + 1 = pc')
    (kk : Go p e below s cm sm Q T (mkF m pc' Ls (.int (x ||| y) :: St))) : Go p e below s cm sm Q T (mkF m pc Ls (.int y :: .int x :: St)) := by
  subst hp
  exact Go.st (fun t q => XS.ior (g := mkF m pc Ls (.int y :: .int x :: St)) X.here hx rfl hd rfl q) kk
theorem w_lor (X : Stand p l e R s m args below meth c T locs cells slots) (hx : p.tables.exec = Jvm.exec) {x y : Int64} (hd : decode c.code pc = .ok (.lor, 1)) (hp : pc + 1 = pc')
    (kk : Go p e below s cm sm Q T (mkF m pc' Ls (.long (x ||| y) :: St))) : Go p e below s cm sm Q T (mkF m pc Ls (.long y :: .long x :: St)) := by
  subst hp
  exact Go.st (fun t q => XS.lor (g := mkF m pc Ls (.long y :: .long x :: St)) X.here hx rfl hd rfl q) kk
theorem w_ixor (X : Stand p l e R s m args below meth c T locs cells slots) (hx : p.tables.exec = Jvm.exec) {x y : Int32} (hd : decode c.code pc = .ok (.ixor, 1)) (hp : pc + 1 = pc')
    (kk : Go p e below s cm sm Q T (mkF m pc' Ls (.int (x ^^^ y) :: St))) : Go p e below s cm sm Q T (mkF m pc Ls (.int y :: .int x :: St)) := by
  subst hp
  exact Go.st (fun t q => XS.ixor (g := mkF m pc Ls (.int y :: .int x :: St)) X.here hx rfl hd rfl q) kk
theorem w_lxor (X : Stand p l e R s m args below meth c T locs cells slots) (hx : p.tables.exec = Jvm.exec) {x y : Int64} (hd : decode c.code pc = .ok (.lxor, 1)) (hp : pc + 1 = pc')
    (kk : Go p e below s cm sm Q T (mkF m pc' Ls (.long (x ^^^ y) :: St))) : Go p e below s cm sm Q T (mkF m pc Ls (.long y :: .long x :: St)) := by
  subst hp
  exact Go.st (fun t q => XS.lxor (g := mkF m pc Ls (.long y :: .long x :: St)) X.here hx rfl hd rfl q) kk
theorem w_idiv (X : Stand p l e R s m args below meth c T locs cells slots) (hx : p.tables.exec = Jvm.exec) {x y : Int32} (hd : decode c.code pc = .ok (.idiv, 1)) (hp : pc + 1 = pc') (hy : y ≠ 0)
    (kk : Go p e below s cm sm Q T (mkF m pc' Ls (.int (x / y) :: St))) : Go p e below s cm sm Q T (mkF m pc Ls (.int y :: .int x :: St)) := by
  subst hp
  exact Go.st (fun t q => XS.idiv (g := mkF m pc Ls (.int y :: .int x :: St)) X.here hx rfl hd rfl hy q) kk
theorem own_irem (x y : Int32) : x - x / y * y = x % y := by
  apply Int32.toInt_inj.mp
  have h : x.toInt - x.toInt.tdiv y.toInt * y.toInt = x.toInt.tmod y.toInt := by
    have := Int.mul_tdiv_add_tmod x.toInt y.toInt
    rw [Int.mul_comm]; omega
  have hr := (x % y).toInt_lt
  have hl := (x % y).le_toInt
  rw [Int32.toInt_mod] at hr hl
  rw [Int32.toInt_sub, Int32.toInt_mul, Int32.toInt_div, Int32.toInt_mod, Int.bmod_mul_bmod, Int.sub_bmod_bmod, h, Jvm.Kit.bmod32 (by omega) (by omega)]
theorem w_irem (X : Stand p l e R s m args below meth c T locs cells slots) (hx : p.tables.exec = Jvm.exec) {x y : Int32} (hd : decode c.code pc = .ok (.irem, 1)) (hp : pc + 1 = pc') (hy : y ≠ 0)
    (kk : Go p e below s cm sm Q T (mkF m pc' Ls (.int (x % y) :: St))) : Go p e below s cm sm Q T (mkF m pc Ls (.int y :: .int x :: St)) := by
  subst hp
  rw [← own_irem] at kk
  exact Go.st (fun t q => XS.irem (g := mkF m pc Ls (.int y :: .int x :: St)) X.here hx rfl hd rfl hy q) kk
theorem w_ldiv (X : Stand p l e R s m args below meth c T locs cells slots) (hx : p.tables.exec = Jvm.exec) {x y : Int64} (hd : decode c.code pc = .ok (.ldiv, 1)) (hp : pc + 1 = pc') (hy : y ≠ 0)
    (kk : Go p e below s cm sm Q T (mkF m pc' Ls (.long (x / y) :: St))) : Go p e below s cm sm Q T (mkF m pc Ls (.long y :: .long x :: St)) := by
  subst hp
  exact Go.st (fun t q => XS.ldiv (g := mkF m pc Ls (.long y :: .long x :: St)) X.here hx rfl hd rfl hy q) kk
theorem own_lrem (x y : Int64) : x - x / y * y = x % y := by
  apply Int64.toInt_inj.mp
  have h : x.toInt - x.toInt.tdiv y.toInt * y.toInt = x.toInt.tmod y.toInt := by
    have := Int.mul_tdiv_add_tmod x.toInt y.toInt
    rw [Int.mul_comm]; omega
  have hr := (x % y).toInt_lt
  have hl := (x % y).le_toInt
  rw [Int64.toInt_mod] at hr hl
  rw [Int64.toInt_sub, Int64.toInt_mul, Int64.toInt_div, Int64.toInt_mod, Int.bmod_mul_bmod, Int.sub_bmod_bmod, h, Jvm.Kit.bmod64 (by omega) (by omega)]
theorem w_lrem (X : Stand p l e R s m args below meth c T locs cells slots) (hx : p.tables.exec = Jvm.exec) {x y : Int64} (hd : decode c.code pc = .ok (.lrem, 1)) (hp : pc + 1 = pc') (hy : y ≠ 0)
    (kk : Go p e below s cm sm Q T (mkF m pc' Ls (.long (x % y) :: St))) : Go p e below s cm sm Q T (mkF m pc Ls (.long y :: .long x :: St)) := by
  subst hp
  rw [← own_lrem] at kk
  exact Go.st (fun t q => XS.lrem (g := mkF m pc Ls (.long y :: .long x :: St)) X.here hx rfl hd rfl hy q) kk
theorem w_ineg (X : Stand p l e R s m args below meth c T locs cells slots) (hx : p.tables.exec = Jvm.exec) {x : Int32} (hd : decode c.code pc = .ok (.ineg, 1)) (hp : pc + 1 = pc')
    (kk : Go p e below s cm sm Q T (mkF m pc' Ls (.int (-x) :: St))) : Go p e below s cm sm Q T (mkF m pc Ls (.int x :: St)) := by
  subst hp
  exact Go.st (fun t q => XS.ineg (g := mkF m pc Ls (.int x :: St)) X.here hx rfl hd rfl q) kk
theorem w_lneg (X : Stand p l e R s m args below meth c T locs cells slots) (hx : p.tables.exec = Jvm.exec) {x : Int64} (hd : decode c.code pc = .ok (.lneg, 1)) (hp : pc + 1 = pc')
    (kk : Go p e below s cm sm Q T (mkF m pc' Ls (.long (-x) :: St))) : Go p e below s cm sm Q T (mkF m pc Ls (.long x :: St)) := by
  subst hp
  exact Go.st (fun t q => XS.lneg (g := mkF m pc Ls (.long x :: St)) X.here hx rfl hd rfl q) kk
theorem w_i2l (X : Stand p l e R s m args below meth c T locs cells slots) (hx : p.tables.exec = Jvm.exec) {x : Int32} (hd : decode c.code pc = .ok (.i2l, 1)) (hp : pc + 1 = pc')
    (kk : Go p e below s cm sm Q T (mkF m pc' Ls (.long x.toInt64 :: St))) : Go p e below s cm sm Q T (mkF m pc Ls (.int x :: St)) := by
  subst hp
  exact Go.st (fun t q => XS.i2l (g := mkF m pc Ls (.int x :: St)) X.here hx rfl hd rfl q) kk
theorem w_l2i (X : Stand p l e R s m args below meth c T locs cells slots) (hx : p.tables.exec = Jvm.exec) {x : Int64} (hd : decode c.code pc = .ok (.l2i, 1)) (hp : pc + 1 = pc')
    (kk : Go p e below s cm sm Q T (mkF m pc' Ls (.int x.toInt32 :: St))) : Go p e below s cm sm Q T (mkF m pc Ls (.long x :: St)) := by
  subst hp
  exact Go.st (fun t q => XS.l2i (g := mkF m pc Ls (.long x :: St)) X.here hx rfl hd rfl q) kk
theorem w_i2b (X : Stand p l e R s m args below meth c T locs cells slots) (hx : p.tables.exec = Jvm.exec) {x : Int32} (hd : decode c.code pc = .ok (.i2b, 1)) (hp : pc + 1 = pc')
    (kk : Go p e below s cm sm Q T (mkF m pc' Ls (.int x.toInt8.toInt32 :: St))) : Go p e below s cm sm Q T (mkF m pc Ls (.int x :: St)) := by
  subst hp
  exact Go.st (fun t q => XS.i2b (g := mkF m pc Ls (.int x :: St)) X.here hx rfl hd rfl q) kk
theorem w_i2c (X : Stand p l e R s m args below meth c T locs cells slots) (hx : p.tables.exec = Jvm.exec) {x : Int32} (hd : decode c.code pc = .ok (.i2c, 1)) (hp : pc + 1 = pc')
    (kk : Go p e below s cm sm Q T (mkF m pc' Ls (.int x.toUInt32.toUInt16.toUInt32.toInt32 :: St))) : Go p e below s cm sm Q T (mkF m pc Ls (.int x :: St)) := by
  subst hp
  exact Go.st (fun t q => XS.i2c (g := mkF m pc Ls (.int x :: St)) X.here hx rfl hd rfl q) kk
theorem w_ishl (X : Stand p l e R s m args below meth c T locs cells slots) (hx : p.tables.exec = Jvm.exec) {x y : Int32} (hd : decode c.code pc = .ok (.ishl, 1)) (hp : pc + 1 = pc')
    (kk : Go p e below s cm sm Q T (mkF m pc' Ls (.int (x <<< (y &&& 31)) :: St))) : Go p e below s cm sm Q T (mkF m pc Ls (.int y :: .int x :: St)) := by
  subst hp
  exact Go.st (fun t q => XS.ishl (g := mkF m pc Ls (.int y :: .int x :: St)) X.here hx rfl hd rfl q) kk
theorem w_ishr (X : Stand p l e R s m args below meth c T locs cells slots) (hx : p.tables.exec = Jvm.exec) {x y : Int32} (hd : decode c.code pc = .ok (.ishr, 1)) (hp : pc + 1 = pc')
    (kk : Go p e below s cm sm Q T (mkF m pc' Ls (.int (x >>> (y &&& 31)) :: St))) : Go p e below s cm sm Q T (mkF m pc Ls (.int y :: .int x :: St)) := by
  subst hp
  exact Go.st (fun t q => XS.ishr (g := mkF m pc Ls (.int y :: .int x :: St)) X.here hx rfl hd rfl q) kk
theorem w_iushr (X : Stand p l e R s m args below meth c T locs cells slots) (hx : p.tables.exec = Jvm.exec) {x y : Int32} (hd : decode c.code pc = .ok (.iushr, 1)) (hp : pc + 1 = pc')
    (kk : Go p e below s cm sm Q T (mkF m pc' Ls (.int (jushr x y) :: St))) : Go p e below s cm sm Q T (mkF m pc Ls (.int y :: .int x :: St)) := by
  subst hp
  exact Go.st (fun t q => XS.iushr (g := mkF m pc Ls (.int y :: .int x :: St)) X.here hx rfl hd rfl q) kk
theorem w_lshl (X : Stand p l e R s m args below meth c T locs cells slots) (hx : p.tables.exec = Jvm.exec) {x : Int64} {y : Int32} (hd : decode c.code pc = .ok (.lshl, 1)) (hp : pc + 1 = pc')
    (kk : Go p e below s cm sm Q T (mkF m pc' Ls (.long (x <<< (y &&& 0x3f).toInt64) :: St))) : Go p e below s cm sm Q T (mkF m pc Ls (.int y :: .long x :: St)) := by
  subst hp
  exact Go.st (fun t q => XS.lshl (g := mkF m pc Ls (.int y :: .long x :: St)) X.here hx rfl hd rfl q) kk
theorem w_lshr (X : Stand p l e R s m args below meth c T locs cells slots) (hx : p.tables.exec = Jvm.exec) {x : Int64} {y : Int32} (hd : decode c.code pc = .ok (.lshr, 1)) (hp : pc + 1 = pc')
    (kk : Go p e below s cm sm Q T (mkF m pc' Ls (.long (x >>> (y &&& 0x3f).toInt64) :: St))) : Go p e below s cm sm Q T (mkF m pc Ls (.int y :: .long x :: St)) := by
  subst hp
  exact Go.st (fun t q => XS.lshr (g := mkF m pc Ls (.int y :: .long x :: St)) X.here hx rfl hd rfl q) kk
theorem w_lushr (X : Stand p l e R s m args below meth c T locs cells slots) (hx : p.tables.exec = Jvm.exec) {x : Int64} {y : Int32} (hd : decode c.code pc = .ok (.lushr, 1)) (hp : pc + 1 = pc')
    (kk : Go p e below s cm sm Q T (mkF m pc' Ls (.long (jlushr x y) :: St))) : Go p e below s cm sm Q T (mkF m pc Ls (.int y :: .long x :: St)) := by
  subst hp
  exact Go.st (fun t q => XS.lushr (g := mkF m pc Ls (.int y :: .long x :: St)) X.here hx rfl hd rfl q) kk
theorem w_lcmp (X : Stand p l e R s m args below meth c T locs cells slots) (hx : p.tables.exec = Jvm.exec) {x y : Int64} (hd : decode c.code pc = .ok (.lcmp, 1)) (hp : pc + 1 = pc')
    (kk : Go p e below s cm sm Q T (mkF m pc' Ls (.int (lcmpW x y) :: St))) : Go p e below s cm sm Q T (mkF m pc Ls (.long y :: .long x :: St)) := by
  subst hp
  exact Go.st (fun t q => XS.lcmp (g := mkF m pc Ls (.long y :: .long x :: St)) X.here hx rfl hd rfl q) kk
theorem w_dup (X : Stand p l e R s m args below meth c T locs cells slots) (hx : p.tables.exec = Jvm.exec) {x : Value} (hd : decode c.code pc = .ok (.dup, 1)) (hp : pc + 1 = pc') (hv : x.category = 1)
    (kk : Go p e below s cm sm Q T (mkF m pc' Ls (x :: x :: St))) : Go p e below s cm sm Q T (mkF m pc Ls (x :: St)) := by
  subst hp
  exact Go.st (fun t q => XS.dup (g := mkF m pc Ls (x :: St)) X.here hx rfl hd rfl hv q) kk
theorem w_pop (X : Stand p l e R s m args below meth c T locs cells slots) (hx : p.tables.exec = Jvm.exec) {x : Value} (hd : decode c.code pc = .ok (.pop, 1)) (hp : pc + 1 = pc') (hv : x.category = 1)
    (kk : Go p e below s cm sm Q T (mkF m pc' Ls (St))) : Go p e below s cm sm Q T (mkF m pc Ls (x :: St)) := by
  subst hp
  exact Go.st (fun t q => XS.pop (g := mkF m pc Ls (x :: St)) X.here hx rfl hd rfl hv q) kk
theorem w_dupX1 (X : Stand p l e R s m args below meth c T locs cells slots) (hx : p.tables.exec = Jvm.exec) {x y : Value} (hd : decode c.code pc = .ok (.dup_x1, 1)) (hp : pc + 1 = pc') (hv : x.category = 1) (hv' : y.category = 1)
    (kk : Go p e below s cm sm Q T (mkF m pc' Ls (x :: y :: x :: St))) : Go p e below s cm sm Q T (mkF m pc Ls (x :: y :: St)) := by
  subst hp
  exact Go.st (fun t q => XS.dupX1 (g := mkF m pc Ls (x :: y :: St)) X.here hx rfl hd rfl hv hv' q) kk
theorem w_iinc (X : Stand p l e R s m args below meth c T locs cells slots) (hx : p.tables.exec = Jvm.exec) {k : Nat} {cst : Int} {x w : Int32} (hd : decode c.code pc = .ok (.iinc k cst, 3)) (hp : pc + 3 = pc') (hl : Ls[k]? = some (.val (.int x))) (hv : Int32.ofInt cst = w) (hl' : storeLocals Ls k (.int (x + w)) = some Ls')
    (kk : Go p e below s cm sm Q T (mkF m pc' Ls' St)) : Go p e below s cm sm Q T (mkF m pc Ls St) := by
  subst hp hv
  exact Go.st (fun t q => XS.iinc (g := mkF m pc Ls St) X.here hx rfl hd hl hl' q) kk
theorem w_goto (X : Stand p l e R s m args below meth c T locs cells slots) (hx : p.tables.exec = Jvm.exec) {o : Int} (hd : decode c.code pc = .ok (.goto o, 3)) (ho : 0 ≤ (pc : Int) + o) (hp : ((pc : Int) + o).toNat = pc')
    (kk : Go p e below s cm sm Q T (mkF m pc' Ls St)) : Go p e below s cm sm Q T (mkF m pc Ls St) :=
  Go.st (fun t q => XS.goto (g := mkF m pc Ls St) X.here hx rfl (pc0 := pc) (pc' := pc') rfl hd ho hp q) kk
theorem w_icmp0 (X : Stand p l e R s m args below meth c T locs cells slots) (hx : p.tables.exec = Jvm.exec) {cd : ClassFile.Cond} {x y : Int32} {o : Int} {pt pf : Nat} (hd : decode c.code pc = .ok (.if_icmp cd o, 3)) (hf : pc + 3 = pf) (ho : 0 ≤ (pc : Int) + o) (hp : ((pc : Int) + o).toNat = pt)
    (kT : if_icmp.holds cd x y = true → Go p e below s cm sm Q T (mkF m pt Ls St)) (kF : if_icmp.holds cd x y = false → Go p e below s cm sm Q T (mkF m pf Ls St)) : Go p e below s cm sm Q T (mkF m pc Ls (.int y :: .int x :: St)) := by
  subst hf
  cases hc : if_icmp.holds cd x y with
  | true => exact Go.st (fun t q => XS.icmpYes (g := mkF m pc Ls (.int y :: .int x :: St)) X.here hx rfl (pc0 := pc) (pc' := pt) rfl hd rfl hc ho hp q) (kT hc)
  | false => exact Go.st (fun t q => XS.icmpNo (g := mkF m pc Ls (.int y :: .int x :: St)) X.here hx rfl hd rfl hc q) (kF hc)
theorem w_if0 (X : Stand p l e R s m args below meth c T locs cells slots) (hx : p.tables.exec = Jvm.exec) {cd : ClassFile.Cond} {x : Int32} {o : Int} {pt pf : Nat} (hd : decode c.code pc = .ok (.ifCond cd o, 3)) (hf : pc + 3 = pf) (ho : 0 ≤ (pc : Int) + o) (hp : ((pc : Int) + o).toNat = pt)
    (kT : if_icmp.holds cd x 0 = true → Go p e below s cm sm Q T (mkF m pt Ls St)) (kF : if_icmp.holds cd x 0 = false → Go p e below s cm sm Q T (mkF m pf Ls St)) : Go p e below s cm sm Q T (mkF m pc Ls (.int x :: St)) := by
  subst hf
  cases hc : if_icmp.holds cd x 0 with
  | true => exact Go.st (fun t q => XS.ifYes (g := mkF m pc Ls (.int x :: St)) X.here hx rfl (pc0 := pc) (pc' := pt) rfl hd rfl ((if0 _ _).trans hc) ho hp q) (kT hc)
  | false => exact Go.st (fun t q => XS.ifNo (g := mkF m pc Ls (.int x :: St)) X.here hx rfl hd rfl ((if0 _ _).trans hc) q) (kF hc)
theorem h_lt {x y : Int32} : (if_icmp.holds .lt x y = true → x < y) ∧ (if_icmp.holds .lt x y = false → ¬ x < y) := ⟨fun h => Decidable.byContradiction fun q => by simp [(flt q).1] at h, fun h q => by simp [(tlt q).1] at h⟩
theorem h_ge {x y : Int32} : (if_icmp.holds .ge x y = true → ¬ x < y) ∧ (if_icmp.holds .ge x y = false → x < y) := ⟨fun h q => by simp [(tlt q).2.1] at h, fun h => Decidable.byContradiction fun q => by simp [(flt q).2.1] at h⟩
theorem h_gt {x y : Int32} : (if_icmp.holds .gt x y = true → y < x) ∧ (if_icmp.holds .gt x y = false → ¬ y < x) := ⟨fun h => Decidable.byContradiction fun q => by simp [(flt q).2.2.1] at h, fun h q => by simp [(tlt q).2.2.1] at h⟩
theorem h_le {x y : Int32} : (if_icmp.holds .le x y = true → ¬ y < x) ∧ (if_icmp.holds .le x y = false → y < x) := ⟨fun h q => by simp [(tlt q).2.2.2] at h, fun h => Decidable.byContradiction fun q => by simp [(flt q).2.2.2] at h⟩
theorem h_eq {x y : Int32} : (if_icmp.holds .eq x y = true → x = y) ∧ (if_icmp.holds .eq x y = false → ¬ x = y) := ⟨fun h => Decidable.byContradiction fun q => by simp [(feq q).1] at h, fun h q => by simp [(teq q).1] at h⟩
theorem h_ne {x y : Int32} : (if_icmp.holds .ne x y = true → ¬ x = y) ∧ (if_icmp.holds .ne x y = false → x = y) := ⟨fun h q => by simp [(teq q).2] at h, fun h => Decidable.byContradiction fun q => by simp [(feq q).2] at h⟩
theorem w_icmp_lt (X : Stand p l e R s m args below meth c T locs cells slots) (hx : p.tables.exec = Jvm.exec) {x y : Int32} {o : Int} {pt pf : Nat} (hd : decode c.code pc = .ok (.if_icmp .lt o, 3)) (hf : pc + 3 = pf) (ho : 0 ≤ (pc : Int) + o) (hp : ((pc : Int) + o).toNat = pt)
    (kT : x < y → Go p e below s cm sm Q T (mkF m pt Ls St)) (kF : ¬ (x < y) → Go p e below s cm sm Q T (mkF m pf Ls St)) : Go p e below s cm sm Q T (mkF m pc Ls (.int y :: .int x :: St)) :=
  w_icmp0 X hx hd hf ho hp (fun h => kT (h_lt.1 h)) (fun h => kF (h_lt.2 h))
theorem w_if_lt (X : Stand p l e R s m args below meth c T locs cells slots) (hx : p.tables.exec = Jvm.exec) {x : Int32} {o : Int} {pt pf : Nat} (hd : decode c.code pc = .ok (.ifCond .lt o, 3)) (hf : pc + 3 = pf) (ho : 0 ≤ (pc : Int) + o) (hp : ((pc : Int) + o).toNat = pt)
    (kT : x < 0 → Go p e below s cm sm Q T (mkF m pt Ls St)) (kF : ¬ (x < 0) → Go p e below s cm sm Q T (mkF m pf Ls St)) : Go p e below s cm sm Q T (mkF m pc Ls (.int x :: St)) :=
  w_if0 X hx hd hf ho hp (fun h => kT (h_lt.1 h)) (fun h => kF (h_lt.2 h))
theorem w_ifL_lt (X : Stand p l e R s m args below meth c T locs cells slots) (hx : p.tables.exec = Jvm.exec) {x y : Int64} {o : Int} {pt pf : Nat} (hd : decode c.code pc = .ok (.ifCond .lt o, 3)) (hf : pc + 3 = pf) (ho : 0 ≤ (pc : Int) + o) (hp : ((pc : Int) + o).toNat = pt)
    (kT : x < y → Go p e below s cm sm Q T (mkF m pt Ls St)) (kF : ¬ (x < y) → Go p e below s cm sm Q T (mkF m pf Ls St)) : Go p e below s cm sm Q T (mkF m pc Ls (.int (lcmpW x y) :: St)) :=
  w_if_lt X hx hd hf ho hp (fun q => kT ((lw_lt x y).1 q)) (fun q => kF (fun r => q ((lw_lt x y).2 r)))
theorem w_icmp_ge (X : Stand p l e R s m args below meth c T locs cells slots) (hx : p.tables.exec = Jvm.exec) {x y : Int32} {o : Int} {pt pf : Nat} (hd : decode c.code pc = .ok (.if_icmp .ge o, 3)) (hf : pc + 3 = pf) (ho : 0 ≤ (pc : Int) + o) (hp : ((pc : Int) + o).toNat = pt)
    (kT : ¬ (x < y) → Go p e below s cm sm Q T (mkF m pt Ls St)) (kF : x < y → Go p e below s cm sm Q T (mkF m pf Ls St)) : Go p e below s cm sm Q T (mkF m pc Ls (.int y :: .int x :: St)) :=
  w_icmp0 X hx hd hf ho hp (fun h => kT (h_ge.1 h)) (fun h => kF (h_ge.2 h))
theorem w_if_ge (X : Stand p l e R s m args below meth c T locs cells slots) (hx : p.tables.exec = Jvm.exec) {x : Int32} {o : Int} {pt pf : Nat} (hd : decode c.code pc = .ok (.ifCond .ge o, 3)) (hf : pc + 3 = pf) (ho : 0 ≤ (pc : Int) + o) (hp : ((pc : Int) + o).toNat = pt)
    (kT : ¬ (x < 0) → Go p e below s cm sm Q T (mkF m pt Ls St)) (kF : x < 0 → Go p e below s cm sm Q T (mkF m pf Ls St)) : Go p e below s cm sm Q T (mkF m pc Ls (.int x :: St)) :=
  w_if0 X hx hd hf ho hp (fun h => kT (h_ge.1 h)) (fun h => kF (h_ge.2 h))
theorem w_ifL_ge (X : Stand p l e R s m args below meth c T locs cells slots) (hx : p.tables.exec = Jvm.exec) {x y : Int64} {o : Int} {pt pf : Nat} (hd : decode c.code pc = .ok (.ifCond .ge o, 3)) (hf : pc + 3 = pf) (ho : 0 ≤ (pc : Int) + o) (hp : ((pc : Int) + o).toNat = pt)
    (kT : ¬ (x < y) → Go p e below s cm sm Q T (mkF m pt Ls St)) (kF : x < y → Go p e below s cm sm Q T (mkF m pf Ls St)) : Go p e below s cm sm Q T (mkF m pc Ls (.int (lcmpW x y) :: St)) :=
  w_if_ge X hx hd hf ho hp (fun q => kT (fun r => q ((lw_lt x y).2 r))) (fun q => kF ((lw_lt x y).1 q))
theorem w_icmp_gt (X : Stand p l e R s m args below meth c T locs cells slots) (hx : p.tables.exec = Jvm.exec) {x y : Int32} {o : Int} {pt pf : Nat} (hd : decode c.code pc = .ok (.if_icmp .gt o, 3)) (hf : pc + 3 = pf) (ho : 0 ≤ (pc : Int) + o) (hp : ((pc : Int) + o).toNat = pt)
    (kT : y < x → Go p e below s cm sm Q T (mkF m pt Ls St)) (kF : ¬ (y < x) → Go p e below s cm sm Q T (mkF m pf Ls St)) : Go p e below s cm sm Q T (mkF m pc Ls (.int y :: .int x :: St)) :=
  w_icmp0 X hx hd hf ho hp (fun h => kT (h_gt.1 h)) (fun h => kF (h_gt.2 h))
theorem w_if_gt (X : Stand p l e R s m args below meth c T locs cells slots) (hx : p.tables.exec = Jvm.exec) {x : Int32} {o : Int} {pt pf : Nat} (hd : decode c.code pc = .ok (.ifCond .gt o, 3)) (hf : pc + 3 = pf) (ho : 0 ≤ (pc : Int) + o) (hp : ((pc : Int) + o).toNat = pt)
    (kT : 0 < x → Go p e below s cm sm Q T (mkF m pt Ls St)) (kF : ¬ (0 < x) → Go p e below s cm sm Q T (mkF m pf Ls St)) : Go p e below s cm sm Q T (mkF m pc Ls (.int x :: St)) :=
  w_if0 X hx hd hf ho hp (fun h => kT (h_gt.1 h)) (fun h => kF (h_gt.2 h))
theorem w_ifL_gt (X : Stand p l e R s m args below meth c T locs cells slots) (hx : p.tables.exec = Jvm.exec) {x y : Int64} {o : Int} {pt pf : Nat} (hd : decode c.code pc = .ok (.ifCond .gt o, 3)) (hf : pc + 3 = pf) (ho : 0 ≤ (pc : Int) + o) (hp : ((pc : Int) + o).toNat = pt)
    (kT : y < x → Go p e below s cm sm Q T (mkF m pt Ls St)) (kF : ¬ (y < x) → Go p e below s cm sm Q T (mkF m pf Ls St)) : Go p e below s cm sm Q T (mkF m pc Ls (.int (lcmpW x y) :: St)) :=
  w_if_gt X hx hd hf ho hp (fun q => kT ((lw_gt x y).1 q)) (fun q => kF (fun r => q ((lw_gt x y).2 r)))
theorem w_icmp_le (X : Stand p l e R s m args below meth c T locs cells slots) (hx : p.tables.exec = Jvm.exec) {x y : Int32} {o : Int} {pt pf : Nat} (hd : decode c.code pc = .ok (.if_icmp .le o, 3)) (hf : pc + 3 = pf) (ho : 0 ≤ (pc : Int) + o) (hp : ((pc : Int) + o).toNat = pt)
    (kT : ¬ (y < x) → Go p e below s cm sm Q T (mkF m pt Ls St)) (kF : y < x → Go p e below s cm sm Q T (mkF m pf Ls St)) : Go p e below s cm sm Q T (mkF m pc Ls (.int y :: .int x :: St)) :=
  w_icmp0 X hx hd hf ho hp (fun h => kT (h_le.1 h)) (fun h => kF (h_le.2 h))
theorem w_if_le (X : Stand p l e R s m args below meth c T locs cells slots) (hx : p.tables.exec = Jvm.exec) {x : Int32} {o : Int} {pt pf : Nat} (hd : decode c.code pc = .ok (.ifCond .le o, 3)) (hf : pc + 3 = pf) (ho : 0 ≤ (pc : Int) + o) (hp : ((pc : Int) + o).toNat = pt)
    (kT : ¬ (0 < x) → Go p e below s cm sm Q T (mkF m pt Ls St)) (kF : 0 < x → Go p e below s cm sm Q T (mkF m pf Ls St)) : Go p e below s cm sm Q T (mkF m pc Ls (.int x :: St)) :=
  w_if0 X hx hd hf ho hp (fun h => kT (h_le.1 h)) (fun h => kF (h_le.2 h))
theorem w_ifL_le (X : Stand p l e R s m args below meth c T locs cells slots) (hx : p.tables.exec = Jvm.exec) {x y : Int64} {o : Int} {pt pf : Nat} (hd : decode c.code pc = .ok (.ifCond .le o, 3)) (hf : pc + 3 = pf) (ho : 0 ≤ (pc : Int) + o) (hp : ((pc : Int) + o).toNat = pt)
    (kT : ¬ (y < x) → Go p e below s cm sm Q T (mkF m pt Ls St)) (kF : y < x → Go p e below s cm sm Q T (mkF m pf Ls St)) : Go p e below s cm sm Q T (mkF m pc Ls (.int (lcmpW x y) :: St)) :=
  w_if_le X hx hd hf ho hp (fun q => kT (fun r => q ((lw_gt x y).2 r))) (fun q => kF ((lw_gt x y).1 q))
theorem w_icmp_eq (X : Stand p l e R s m args below meth c T locs cells slots) (hx : p.tables.exec = Jvm.exec) {x y : Int32} {o : Int} {pt pf : Nat} (hd : decode c.code pc = .ok (.if_icmp .eq o, 3)) (hf : pc + 3 = pf) (ho : 0 ≤ (pc : Int) + o) (hp : ((pc : Int) + o).toNat = pt)
    (kT : x = y → Go p e below s cm sm Q T (mkF m pt Ls St)) (kF : ¬ (x = y) → Go p e below s cm sm Q T (mkF m pf Ls St)) : Go p e below s cm sm Q T (mkF m pc Ls (.int y :: .int x :: St)) :=
  w_icmp0 X hx hd hf ho hp (fun h => kT (h_eq.1 h)) (fun h => kF (h_eq.2 h))
theorem w_if_eq (X : Stand p l e R s m args below meth c T locs cells slots) (hx : p.tables.exec = Jvm.exec) {x : Int32} {o : Int} {pt pf : Nat} (hd : decode c.code pc = .ok (.ifCond .eq o, 3)) (hf : pc + 3 = pf) (ho : 0 ≤ (pc : Int) + o) (hp : ((pc : Int) + o).toNat = pt)
    (kT : x = 0 → Go p e below s cm sm Q T (mkF m pt Ls St)) (kF : ¬ (x = 0) → Go p e below s cm sm Q T (mkF m pf Ls St)) : Go p e below s cm sm Q T (mkF m pc Ls (.int x :: St)) :=
  w_if0 X hx hd hf ho hp (fun h => kT (h_eq.1 h)) (fun h => kF (h_eq.2 h))
theorem w_ifL_eq (X : Stand p l e R s m args below meth c T locs cells slots) (hx : p.tables.exec = Jvm.exec) {x y : Int64} {o : Int} {pt pf : Nat} (hd : decode c.code pc = .ok (.ifCond .eq o, 3)) (hf : pc + 3 = pf) (ho : 0 ≤ (pc : Int) + o) (hp : ((pc : Int) + o).toNat = pt)
    (kT : x = y → Go p e below s cm sm Q T (mkF m pt Ls St)) (kF : ¬ (x = y) → Go p e below s cm sm Q T (mkF m pf Ls St)) : Go p e below s cm sm Q T (mkF m pc Ls (.int (lcmpW x y) :: St)) :=
  w_if_eq X hx hd hf ho hp (fun q => kT ((lw_eq x y).1 q)) (fun q => kF (fun r => q ((lw_eq x y).2 r)))
theorem w_icmp_ne (X : Stand p l e R s m args below meth c T locs cells slots) (hx : p.tables.exec = Jvm.exec) {x y : Int32} {o : Int} {pt pf : Nat} (hd : decode c.code pc = .ok (.if_icmp .ne o, 3)) (hf : pc + 3 = pf) (ho : 0 ≤ (pc : Int) + o) (hp : ((pc : Int) + o).toNat = pt)
    (kT : ¬ (x = y) → Go p e below s cm sm Q T (mkF m pt Ls St)) (kF : x = y → Go p e below s cm sm Q T (mkF m pf Ls St)) : Go p e below s cm sm Q T (mkF m pc Ls (.int y :: .int x :: St)) :=
  w_icmp0 X hx hd hf ho hp (fun h => kT (h_ne.1 h)) (fun h => kF (h_ne.2 h))
theorem w_if_ne (X : Stand p l e R s m args below meth c T locs cells slots) (hx : p.tables.exec = Jvm.exec) {x : Int32} {o : Int} {pt pf : Nat} (hd : decode c.code pc = .ok (.ifCond .ne o, 3)) (hf : pc + 3 = pf) (ho : 0 ≤ (pc : Int) + o) (hp : ((pc : Int) + o).toNat = pt)
    (kT : ¬ (x = 0) → Go p e below s cm sm Q T (mkF m pt Ls St)) (kF : x = 0 → Go p e below s cm sm Q T (mkF m pf Ls St)) : Go p e below s cm sm Q T (mkF m pc Ls (.int x :: St)) :=
  w_if0 X hx hd hf ho hp (fun h => kT (h_ne.1 h)) (fun h => kF (h_ne.2 h))
theorem w_ifL_ne (X : Stand p l e R s m args below meth c T locs cells slots) (hx : p.tables.exec = Jvm.exec) {x y : Int64} {o : Int} {pt pf : Nat} (hd : decode c.code pc = .ok (.ifCond .ne o, 3)) (hf : pc + 3 = pf) (ho : 0 ≤ (pc : Int) + o) (hp : ((pc : Int) + o).toNat = pt)
    (kT : ¬ (x = y) → Go p e below s cm sm Q T (mkF m pt Ls St)) (kF : x = y → Go p e below s cm sm Q T (mkF m pf Ls St)) : Go p e below s cm sm Q T (mkF m pc Ls (.int (lcmpW x y) :: St)) :=
  w_if_ne X hx hd hf ho hp (fun q => kT (fun r => q ((lw_eq x y).2 r))) (fun q => kF ((lw_eq x y).1 q))
theorem w_ldc (X : Stand p l e R s m args below meth c T locs cells slots) (hx : p.tables.exec = Jvm.exec) (hZ : Z.Warmed39 s.vm) {own : String} {index : Nat} {v : Int32} (hown : s.vm.findClass own = some m.cls) (w : (Jvm.Cond.constant own index v).before a0 Z = true) (hd : decode c.code pc = .ok (.ldc index, 2)) (hp : pc + 2 = pc')
    (kk : Go p e below s cm sm Q T (mkF m pc' Ls (.int v :: St))) : Go p e below s cm sm Q T (mkF m pc Ls St) := by
  subst hp
  exact Go.st (fun t q => X.ldcInt hx hown (mvT hZ w) (g := mkF m pc Ls St) rfl hd t q) kk
theorem w_ldcw (X : Stand p l e R s m args below meth c T locs cells slots) (hx : p.tables.exec = Jvm.exec) (hZ : Z.Warmed39 s.vm) {own : String} {index : Nat} {v : Int32} (hown : s.vm.findClass own = some m.cls) (w : (Jvm.Cond.constant own index v).before a0 Z = true) (hd : decode c.code pc = .ok (.ldc_w index, 3)) (hp : pc + 3 = pc')
    (kk : Go p e below s cm sm Q T (mkF m pc' Ls (.int v :: St))) : Go p e below s cm sm Q T (mkF m pc Ls St) := by
  subst hp
  exact Go.st (fun t q => X.ldcWI hx hown (mvT hZ w) (g := mkF m pc Ls St) rfl hd q) kk
theorem w_ldc2 (X : Stand p l e R s m args below meth c T locs cells slots) (hx : p.tables.exec = Jvm.exec) (hZ : Z.Warmed39 s.vm) {own : String} {index : Nat} {v : Int64} (hown : s.vm.findClass own = some m.cls) (w : (Jvm.Cond.constantLong own index v).before a0 Z = true) (hd : decode c.code pc = .ok (.ldc2_w index, 3)) (hp : pc + 3 = pc')
    (kk : Go p e below s cm sm Q T (mkF m pc' Ls (.long v :: St))) : Go p e below s cm sm Q T (mkF m pc Ls St) := by
  subst hp
  exact Go.st (fun t q => X.ldc2Long hx hown (mvT hZ w) (g := mkF m pc Ls St) rfl hd t q) kk
theorem w_retZ (X : Stand p l e R s m args below meth c T locs cells slots) (hx : p.tables.exec = Jvm.exec) (hret : meth.sig.returnType = some .boolean) (hlk : meth.locks = false) {z : Int32} (hd : decode c.code pc = .ok (.ireturn, 1)) (hc : cells ≤ cm) (hs : slots ≤ sm) (hQ : Q (some (.int (nar .boolean z))) T.heap locs) : Go p e below s cm sm Q T (mkF m pc Ls (.int z :: St)) := by
  obtain ⟨fs, hr, hrun, hended, hW, hsame⟩ := X.leave (v := some (.int (nar .boolean z))) (fun h => by rw [hret] at h; cases h) hlk
  exact ⟨_, _, retN X hx (t := .boolean) hret (by simp) hd hr, hrun, hended, _, _, rfl, hQ, ⟨_, rfl⟩, hW, hsame.mono hc hs⟩
theorem w_retB (X : Stand p l e R s m args below meth c T locs cells slots) (hx : p.tables.exec = Jvm.exec) (hret : meth.sig.returnType = some .byte) (hlk : meth.locks = false) {z : Int32} (hd : decode c.code pc = .ok (.ireturn, 1)) (hc : cells ≤ cm) (hs : slots ≤ sm) (hQ : Q (some (.int (nar .byte z))) T.heap locs) : Go p e below s cm sm Q T (mkF m pc Ls (.int z :: St)) := by
  obtain ⟨fs, hr, hrun, hended, hW, hsame⟩ := X.leave (v := some (.int (nar .byte z))) (fun h => by rw [hret] at h; cases h) hlk
  exact ⟨_, _, retN X hx (t := .byte) hret (by simp) hd hr, hrun, hended, _, _, rfl, hQ, ⟨_, rfl⟩, hW, hsame.mono hc hs⟩
theorem w_retC (X : Stand p l e R s m args below meth c T locs cells slots) (hx : p.tables.exec = Jvm.exec) (hret : meth.sig.returnType = some .char) (hlk : meth.locks = false) {z : Int32} (hd : decode c.code pc = .ok (.ireturn, 1)) (hc : cells ≤ cm) (hs : slots ≤ sm) (hQ : Q (some (.int (nar .char z))) T.heap locs) : Go p e below s cm sm Q T (mkF m pc Ls (.int z :: St)) := by
  obtain ⟨fs, hr, hrun, hended, hW, hsame⟩ := X.leave (v := some (.int (nar .char z))) (fun h => by rw [hret] at h; cases h) hlk
  exact ⟨_, _, retN X hx (t := .char) hret (by simp) hd hr, hrun, hended, _, _, rfl, hQ, ⟨_, rfl⟩, hW, hsame.mono hc hs⟩
theorem w_retS (X : Stand p l e R s m args below meth c T locs cells slots) (hx : p.tables.exec = Jvm.exec) (hret : meth.sig.returnType = some .short) (hlk : meth.locks = false) {z : Int32} (hd : decode c.code pc = .ok (.ireturn, 1)) (hc : cells ≤ cm) (hs : slots ≤ sm) (hQ : Q (some (.int (nar .short z))) T.heap locs) : Go p e below s cm sm Q T (mkF m pc Ls (.int z :: St)) := by
  obtain ⟨fs, hr, hrun, hended, hW, hsame⟩ := X.leave (v := some (.int (nar .short z))) (fun h => by rw [hret] at h; cases h) hlk
  exact ⟨_, _, retN X hx (t := .short) hret (by simp) hd hr, hrun, hended, _, _, rfl, hQ, ⟨_, rfl⟩, hW, hsame.mono hc hs⟩
theorem w_retI (X : Stand p l e R s m args below meth c T locs cells slots) (hx : p.tables.exec = Jvm.exec) (hret : meth.sig.returnType = some .int) (hlk : meth.locks = false) {z : Int32} (hd : decode c.code pc = .ok (.ireturn, 1)) (hc : cells ≤ cm) (hs : slots ≤ sm) (hQ : Q (some (.int z)) T.heap locs) : Go p e below s cm sm Q T (mkF m pc Ls (.int z :: St)) := by
  obtain ⟨fs, hr, hrun, hended, hW, hsame⟩ := X.leave (v := some (.int z)) (fun h => by rw [hret] at h; cases h) hlk
  refine ⟨T.setFrames fs, _, ?_, hrun, hended, _, _, rfl, hQ, ⟨_, rfl⟩, hW, hsame.mono hc hs⟩
  have hm' : T.vm.method? m = some meth := X.method'
  have hn : narrow .int (.int z) = .int z := rfl
  show Steps p.tables e below (T.setTop { method := m, pc := pc, locals := Ls, stack := .int z :: St, locked := none }) _
  jvm_step X.here [X.here.top, hx, hd, hm', hret, hn]
  first | (intro acts; rw [hr _ acts rfl rfl rfl]) | rw [hr _ _ rfl rfl rfl]
  exact Steps.refl _
theorem w_retJ (X : Stand p l e R s m args below meth c T locs cells slots) (hx : p.tables.exec = Jvm.exec) (hret : meth.sig.returnType = some .long) (hlk : meth.locks = false) {z : Int64} (hd : decode c.code pc = .ok (.lreturn, 1)) (hc : cells ≤ cm) (hs : slots ≤ sm) (hQ : Q (some (.long z)) T.heap locs) : Go p e below s cm sm Q T (mkF m pc Ls [.long z]) := by
  obtain ⟨fs, hr, hrun, hended, hW, hsame⟩ := X.leave (v := some (.long z)) (fun h => by rw [hret] at h; cases h) hlk
  exact ⟨T.setFrames fs, _, X.lreturnOut hx hret hd hr, hrun, hended, _, _, rfl, hQ, ⟨_, rfl⟩, hW, hsame.mono hc hs⟩
theorem w_retV (X : Stand p l e R s m args below meth c T locs cells slots) (hx : p.tables.exec = Jvm.exec) (hret : meth.sig.returnType = none) (hlk : meth.locks = false) (hd : decode c.code pc = .ok (.return_, 1)) (hc : cells ≤ cm) (hs : slots ≤ sm) (hQ : Q none T.heap locs) : Go p e below s cm sm Q T (mkF m pc Ls []) := by
  obtain ⟨fs, hr, hrun, hended, hW, hsame⟩ := X.leave (v := none) (fun _ => rfl) hlk
  exact ⟨T.setFrames fs, _, X.returnOut hx hret hd hr, hrun, hended, _, _, rfl, hQ, ⟨_, rfl⟩, hW, hsame.mono hc hs⟩
theorem w_retA (X : Stand p l e R s m args below meth c T locs cells slots) (hx : p.tables.exec = Jvm.exec) {rt : FieldType} (hret : meth.sig.returnType = some rt) (hrt : rt.isReference = true) (hlk : meth.locks = false) {a : Addr} (hd : decode c.code pc = .ok (.areturn, 1)) (hc : cells ≤ cm) (hs : slots ≤ sm) (hQ : Q (some (.ref a)) T.heap locs) : Go p e below s cm sm Q T (mkF m pc Ls (.ref a :: St)) := by
  obtain ⟨fs, hr, hrun, hended, hW, hsame⟩ := X.leave (v := some (.ref a)) (fun h => by rw [hret] at h; cases h) hlk
  refine ⟨T.setFrames fs, _, ?_, hrun, hended, _, _, rfl, hQ, ⟨_, rfl⟩, hW, hsame.mono hc hs⟩
  have hm' : T.vm.method? m = some meth := X.method'
  show Steps p.tables e below (T.setTop { method := m, pc := pc, locals := Ls, stack := .ref a :: St, locked := none }) _
  jvm_step X.here [X.here.top, hx, hd, hm', hret, Value.isRef, hrt]
  first | (intro acts; rw [hr _ acts rfl rfl rfl]) | rw [hr _ _ rfl rfl rfl]
  exact Steps.refl _
theorem Con.back {y : MethodName} {bytes : ByteArray} {maxL : Nat} {ret : Option FieldType} {rm : Room} {len W : Nat} {as' : Array Value} {Qc : Option Value → Heap → List Loc → Prop} (C : Con l Z y bytes maxL ret rm as' h Qc) (hZ : Z.Warmed39 s.vm) (wc : (Jvm.Cond.code y bytes maxL ret).before a0 Z = true) (wz : (Jvm.Cond.initialized y.cls).before a0 Z = true) (hf : rm.frames + 1 ≤ R.frames) (hl : W + (maxL + 11) + rm.locals ≤ R.locals) :
    Back l R p e below s args y len W (fun A a => a = as' ∧ A.U.heap = h ∧ A.cells + rm.cells ≤ R.cells ∧ A.slots + rm.slots ≤ R.slots) (fun A _ v B => ∃ L, Qc v B.U.heap L ∧ B.locs = A.locs ++ L ∧ B.cells = A.cells + rm.cells ∧ B.slots = A.slots + rm.slots) :=
  backOf (C []) hZ wc wz hf hl
theorem w_callS (X : Stand p l e R s m args below meth c T locs cells slots) (hx : p.tables.exec = Jvm.exec) (hZ : Z.Warmed39 s.vm) {own : String} {index : Nat} {y : MethodName} {bytes : ByteArray} {maxL : Nat} {ret : Option FieldType} {rm : Room} {W : Nat} {argsL rest : List Value} {Qc : Option Value → Heap → List Loc → Prop} (hown : s.vm.findClass own = some m.cls) (eT : T.heap = h) (C : Con l Z y bytes maxL ret rm argsL.toArray h Qc) (w1 : (Jvm.Cond.methodLink own index y).before a0 Z = true) (w2 : (Jvm.Cond.static y).before a0 Z = true) (w3 : (Jvm.Cond.initialized y.cls).before a0 Z = true) (w4 : (Jvm.Cond.code y bytes maxL ret).before a0 Z = true) (hy : y.cls ≠ "java/lang/invoke/MethodHandle" ∧ y.cls ≠ "java/lang/invoke/VarHandle")
    (hf : rm.frames + 1 ≤ R.frames) (hl : W + (maxL + 11) + rm.locals ≤ R.locals) (hc : cells + rm.cells ≤ R.cells) (hs : slots + rm.slots ≤ R.slots) (hsz : Ls.size = c.maxLocals) (hlen : ∀ sig, parseMethodDescriptor y.desc = some sig → argsL.length = sig.parameters.length) (hW : (rest.map fun v => v.category).sum ≤ W) (hst : St = argsL.reverse ++ rest) (hd : decode c.code pc = .ok (.invokestatic index, 3)) (hp : pc + 3 = pc')
    (kk : ∀ (T' : State) (L : List Loc) (v : Option Value), Stand p l e R s m args below meth c T' (locs ++ L) (cells + rm.cells) (slots + rm.slots) → Qc v T'.heap L → Go p e below s cm sm Q T' (mkF m pc' Ls (v.toList ++ rest))) : Go p e below s cm sm Q T (mkF m pc Ls St) := by
  subst hp hst
  obtain ⟨v, _, ⟨T1, L1, k1, n1⟩, -, X1, ⟨Lc, hQ, l1, y1, z1⟩, st⟩ := Jvm.LawKit.callS X hx (y := y) hown (mvT hZ w1) (mvT hZ w2) (mvT hZ w3) (mvT hZ w4) hy (C.back (W := W) hZ w4 w3 hf hl) (g := mkF m pc Ls (argsL.reverse ++ rest)) rfl hsz (argsL := argsL) (rest := rest) hlen rfl (by show 2 * 0 + _ ≤ _; rw [Nat.mul_zero, Nat.zero_add]; exact hW) hd (fun _ _ => ⟨rfl, eT, hc, hs⟩)
  dsimp only [Pt.U, Pt.locs, Pt.cells, Pt.slots] at X1 l1 y1 z1 st hQ
  subst l1 y1 z1
  exact Go.st st (kk _ _ _ X1 hQ)
theorem w_callI (X : Stand p l e R s m args below meth c T locs cells slots) (hx : p.tables.exec = Jvm.exec) (hZ : Z.Warmed39 s.vm) {own : String} {index : Nat} {y : MethodName} {bytes : ByteArray} {maxL : Nat} {rm : Room} {W : Nat} {argsL rest : List Value} {Qc : Option Value → Heap → List Loc → Prop} {a : Addr} (hown : s.vm.findClass own = some m.cls) (eT : T.heap = h) (C : Con l Z y bytes maxL none rm (.ref a :: argsL).toArray h Qc) (hn : y.name = "<init>") (w1 : (Jvm.Cond.methodLink own index y).before a0 Z = true) (w2 : (Jvm.Cond.instanceMethod y).before a0 Z = true) (w3 : (Jvm.Cond.initialized y.cls).before a0 Z = true) (w4 : (Jvm.Cond.code y bytes maxL none).before a0 Z = true) (hy : y.cls ≠ "java/lang/invoke/MethodHandle" ∧ y.cls ≠ "java/lang/invoke/VarHandle")
    (hf : rm.frames + 1 ≤ R.frames) (hl : W + (maxL + 11) + rm.locals ≤ R.locals) (hc : cells + rm.cells ≤ R.cells) (hs : slots + rm.slots ≤ R.slots) (hsz : Ls.size = c.maxLocals) (hlen : ∀ sig, parseMethodDescriptor y.desc = some sig → argsL.length = sig.parameters.length) (hW : (rest.map fun v => v.category).sum ≤ W) (hst : St = argsL.reverse ++ .ref a :: rest) (hd : decode c.code pc = .ok (.invokespecial index, 3)) (hp : pc + 3 = pc')
    (kk : ∀ (T' : State) (L : List Loc) (v : Option Value), Stand p l e R s m args below meth c T' (locs ++ L) (cells + rm.cells) (slots + rm.slots) → Qc v T'.heap L → Go p e below s cm sm Q T' (mkF m pc' Ls (v.toList ++ rest))) : Go p e below s cm sm Q T (mkF m pc Ls St) := by
  subst hp hst
  obtain ⟨v, _, ⟨T1, L1, k1, n1⟩, -, X1, ⟨Lc, hQ, l1, y1, z1⟩, st⟩ := X.specialBack hx (y := y) hn hown (mvT hZ w1) (mvT hZ w2) (mvT hZ w4) hy (C.back (W := W) hZ w4 w3 hf hl) (g := mkF m pc Ls (argsL.reverse ++ .ref a :: rest)) rfl hsz (Steps.refl _) (a := a) (argsL := argsL) (rest := rest) hlen rfl (by show 2 * 0 + _ ≤ _; rw [Nat.mul_zero, Nat.zero_add]; exact hW) hd (fun _ _ => ⟨rfl, eT, hc, hs⟩)
  dsimp only [Pt.U, Pt.locs, Pt.cells, Pt.slots] at X1 l1 y1 z1 st hQ
  subst l1 y1 z1
  exact Go.st (fun t q => st.trans q) (kk _ _ _ X1 hQ)
theorem w_callV (X : Stand p l e R s m args below meth c T locs cells slots) (hx : p.tables.exec = Jvm.exec) (hZ : Z.Warmed39 s.vm) {own : String} {index : Nat} {y : MethodName} {bytes : ByteArray} {maxL : Nat} {ret : Option FieldType} {rm : Room} {W : Nat} {argsL rest : List Value} {Qc : Option Value → Heap → List Loc → Prop} {a : Addr} (hown : s.vm.findClass own = some m.cls) (eT : T.heap = h) (E : Exa Z h a y.cls) (C : Con l Z y bytes maxL ret rm (.ref a :: argsL).toArray h Qc) (w1 : (Jvm.Cond.methodLink own index y).before a0 Z = true) (wd : (Jvm.Cond.declares y).before a0 Z = true) (ws : (Jvm.Cond.selects y.cls y y).before a0 Z = true) (w2 : (Jvm.Cond.instanceMethod y).before a0 Z = true) (w3 : (Jvm.Cond.initialized y.cls).before a0 Z = true) (w4 : (Jvm.Cond.code y bytes maxL ret).before a0 Z = true) (hy : y.cls ≠ "java/lang/invoke/MethodHandle" ∧ y.cls ≠ "java/lang/invoke/VarHandle")
    (hf : rm.frames + 1 ≤ R.frames) (hl : W + (maxL + 11) + rm.locals ≤ R.locals) (hc : cells + rm.cells ≤ R.cells) (hs : slots + rm.slots ≤ R.slots) (hsz : Ls.size = c.maxLocals) (hlen : ∀ sig, parseMethodDescriptor y.desc = some sig → argsL.length = sig.parameters.length) (hW : (rest.map fun v => v.category).sum ≤ W) (hst : St = argsL.reverse ++ .ref a :: rest) (hd : decode c.code pc = .ok (.invokevirtual index, 3)) (hp : pc + 3 = pc')
    (kk : ∀ (T' : State) (L : List Loc) (v : Option Value), Stand p l e R s m args below meth c T' (locs ++ L) (cells + rm.cells) (slots + rm.slots) → Qc v T'.heap L → Go p e below s cm sm Q T' (mkF m pc' Ls (v.toList ++ rest))) : Go p e below s cm sm Q T (mkF m pc Ls St) := by
  subst hp hst
  obtain ⟨cq, kq, qa, qb, qc⟩ := isOf hZ eT E
  obtain ⟨v, _, ⟨T1, L1, k1, n1⟩, -, X1, ⟨Lc, hQ, l1, y1, z1⟩, st⟩ := X.virtualBack hx (y := y) (z := y) hown (mvT hZ w1) (mvT hZ wd) (notFace_of_selects (args := #[]) (mvT hZ ws)) (mvT hZ ws) (mvT hZ w2) hy (C.back (W := W) hZ w4 w3 hf hl) qa qc (g := mkF m pc Ls (argsL.reverse ++ .ref a :: rest)) rfl hsz (Steps.refl _) (argsL := argsL) (rest := rest) hlen rfl (by show 2 * 0 + _ ≤ _; rw [Nat.mul_zero, Nat.zero_add]; exact hW) hd (fun _ _ => ⟨rfl, eT, hc, hs⟩)
  dsimp only [Pt.U, Pt.locs, Pt.cells, Pt.slots] at X1 l1 y1 z1 st hQ
  subst l1 y1 z1
  exact Go.st (fun t q => st.trans q) (kk _ _ _ X1 hQ)
theorem w_initO (X : Stand p l e R s m args below meth c T locs cells slots) (hx : p.tables.exec = Jvm.exec) (hZ : Z.Warmed39 s.vm) {own : String} {index : Nat} {a : Addr} (hown : s.vm.findClass own = some m.cls) (eT : T.heap = h) (w1 : (Jvm.Cond.methodLink own index Lib.objectInit).before a0 Z = true) (w2 : (Jvm.Cond.instanceMethod Lib.objectInit).before a0 Z = true) (w3 : (Jvm.Cond.code Lib.objectInit ⟨#[0xb1]⟩ 1 none).before a0 Z = true) (hsz : Ls.size = c.maxLocals) (hd : decode c.code pc = .ok (.invokespecial index, 3)) (hf : 1 ≤ R.frames) {W : Nat} (hW : (St.map fun v => v.category).sum ≤ W) (hl : W + 12 ≤ R.locals) (hp : pc + 3 = pc')
    (kk : ∀ T' : State, Stand p l e R s m args below meth c T' locs cells slots → T'.heap = h → Go p e below s cm sm Q T' (mkF m pc' Ls St)) : Go p e below s cm sm Q T (mkF m pc Ls (.ref a :: St)) := by
  subst hp
  obtain ⟨T1, X1, e1, st⟩ := initO X hx hZ hown w1 w2 w3 eT (g := mkF m pc Ls (.ref a :: St)) rfl hsz rfl hd hf (W := W) (by show 2 * 0 + _ ≤ _; rw [Nat.mul_zero, Nat.zero_add]; exact hW) hl
  exact Go.st st (kk _ X1 e1)
theorem w_getF (X : Stand p l e R s m args below meth c T locs cells slots) (hx : p.tables.exec = Jvm.exec) (hZ : Z.Warmed39 s.vm) {own O n d : String} {index : Nat} {a : Addr} {v : Value} (hown : s.vm.findClass own = some m.cls) (eT : T.heap = h) (F : Fld Z h a O n d v) (w : (Jvm.Cond.fieldLink own index O n d).before a0 Z = true) (hd : decode c.code pc = .ok (.getfield index, 3)) (hp : pc + 3 = pc')
    (kk : ∀ T' : State, Stand p l e R s m args below meth c T' locs cells slots → T'.heap = h → Go p e below s cm sm Q T' (mkF m pc' Ls (v :: St))) : Go p e below s cm sm Q T (mkF m pc Ls (.ref a :: St)) := by
  subst hp
  obtain ⟨T1, X1, e1, st⟩ := getF X hx hZ hown (host := "") (Or.inl w) Via.refl eT F (g := mkF m pc Ls (.ref a :: St)) rfl rfl hd
  exact Go.st st (kk _ X1 e1)
theorem w_putF (X : Stand p l e R s m args below meth c T locs cells slots) (hx : p.tables.exec = Jvm.exec) (hZ : Z.Warmed39 s.vm) {own O n d C : String} {index kn : Nat} {ty : FieldType} {a : Addr} {v old : Value} (hown : s.vm.findClass own = some m.cls) (eT : T.heap = h) (F : Fld Z h a O n d old) (E : Exa Z h a C) (w : (Jvm.Cond.fieldLink own index O n d).before a0 Z = true) (L : (Jvm.Cond.lays C O n d).before a0 Z = true ∨ ((Jvm.Cond.laysFinal C O n d).before a0 Z = true ∧ own = O ∧ meth.name = "<init>")) (wi : (Jvm.Cond.instantiable C kn).before a0 Z = true) (hty : parseFieldDescriptor d = some ty) (hn : narrow ty v = v) (hf : fits ty v = true) (hd : decode c.code pc = .ok (.putfield index, 3)) (hp : pc + 3 = pc')
    (kk : ∀ (T' : State) (h' : Heap), Stand p l e R s m args below meth c T' (locs ++ [⟨a, RoadKit.slotOf Z O n d⟩]) cells slots → T'.heap = h' → Wr h h' a (RoadKit.slotOf Z O n d) v → Go p e below s cm sm Q T' (mkF m pc' Ls St)) : Go p e below s cm sm Q T (mkF m pc Ls (v :: .ref a :: St)) := by
  subst hp
  obtain ⟨T1, h1, X1, e1, W1, st⟩ := putF X hx hZ hown (host := "") (Or.inl w) Via.refl eT F E L wi hty hn hf (g := mkF m pc Ls (v :: .ref a :: St)) rfl rfl hd
  exact Go.st st (kk _ _ X1 e1 W1)
theorem w_newO (X : Stand p l e R s m args below meth c T locs cells slots) (hx : p.tables.exec = Jvm.exec) (hZ : Z.Warmed39 s.vm) {own C : String} {index kn : Nat} (hown : s.vm.findClass own = some m.cls) (eT : T.heap = h) (w : (Jvm.Cond.classLink own index C).before a0 Z = true) (wi : (Jvm.Cond.instantiable C kn).before a0 Z = true) (wz : (Jvm.Cond.initialized C).before a0 Z = true) (hd : decode c.code pc = .ok (.new index, 3)) (hc : cells + 1 ≤ R.cells) (hl : slots + kn ≤ R.slots) (hp : pc + 3 = pc')
    (kk : ∀ (T' : State) (h' : Heap) (b : Addr), Stand p l e R s m args below meth c T' locs (cells + 1) (slots + kn) → T'.heap = h' → Ext h h' → b = h.size → Exa Z h' b C → (∀ {O nm d : String} {ty : FieldType}, Laid Z a0 C O nm d → parseFieldDescriptor d = some ty → Fld Z h' b O nm d (defaultValue ty)) → Go p e below s cm sm Q T' (mkF m pc' Ls (.ref b :: St))) : Go p e below s cm sm Q T (mkF m pc Ls St) := by
  subst hp
  obtain ⟨T1, h1, X1, e1, E1, A1, D1, -, st⟩ := newO X hx hZ hown w wi wz eT (g := mkF m pc Ls St) rfl hd hc hl
  exact Go.st st (kk _ _ _ X1 e1 E1 rfl A1 D1)
/-- an array of ints, bytes, chars, shorts or booleans, by its list -/
def AI (Z : State) (h : Heap) (a : Addr) (ty : FieldType) (vs : List Int32) : Prop := ∃ c : Cell, Arr Z h a c ty ∧ c.slots.toList = vs.map Value.int ∧ vs.length < 2147483648
/-- an array of longs, by its list -/
def AJ (Z : State) (h : Heap) (a : Addr) (vs : List Int64) : Prop := ∃ c : Cell, Arr Z h a c .long ∧ c.slots.toList = vs.map Value.long ∧ vs.length < 2147483648
theorem AI.lt {a : Addr} {ty : FieldType} {vs : List Int32} (F : AI Z h a ty vs) : a < h.size := by obtain ⟨c, q, -⟩ := F; exact q.lt
theorem AI.ext {a : Addr} {ty : FieldType} {vs : List Int32} (F : AI Z h a ty vs) (E : Ext h h') : AI Z h' a ty vs := by obtain ⟨c, q, r⟩ := F; exact ⟨c, q.ext E, r⟩
theorem AI.other {a b : Addr} {ty : FieldType} {vs : List Int32} {sl : Nat} {v : Value} (F : AI Z h a ty vs) (W : Wr h h' b sl v) (q : a ≠ b) : AI Z h' a ty vs := by obtain ⟨c, A, r⟩ := F; exact ⟨c, A.other W q, r⟩
theorem AI.keep {a : Addr} {ty : FieldType} {vs : List Int32} {ws : List Addr} (F : AI Z h a ty vs) (K : Keep h h' ws) (q : a ∉ ws) : AI Z h' a ty vs := by obtain ⟨c, A, r⟩ := F; exact ⟨c, ⟨K.2.1 a c A.1 q, A.2⟩, r⟩
theorem AI.new {a : Addr} {k : ClassId} {z : Int32} {ty : FieldType} (A : Arr Z h a (newA k ty z) ty) (hd : defaultValue ty = .int 0) : AI Z h a ty (List.replicate z.toNatClampNeg 0) := by
  refine ⟨_, A, ?_, ?_⟩
  · simp [newA, hd]
  · have := z.toInt_lt; rw [List.length_replicate]; show z.toInt.toNat < _; omega
theorem AI.wr {a : Addr} {ty : FieldType} {vs : List Int32} {j : Nat} {x : Int32} (F : AI Z h a ty vs) (W : Wr h h' a j (Value.int x)) : AI Z h' a ty (vs.set j x) := by
  obtain ⟨c, A, q, r⟩ := F
  refine ⟨_, A.same W, ?_, by simpa using r⟩
  simp [Cell.setSlot, q, List.map_set]
theorem AI.len {a : Addr} {ty : FieldType} {vs : List Int32} (F : AI Z h a ty vs) : vs.length < 2147483648 := by obtain ⟨c, q, r, t⟩ := F; exact t
theorem AI.sz {vs : List Int32} {c : Cell} (q : c.slots.toList = vs.map Value.int) : c.slots.size = vs.length := by
  have := congrArg List.length q; simpa using this
theorem AI.at {vs : List Int32} {c : Cell} {j : Nat} {x : Int32} (q : c.slots.toList = vs.map Value.int) (hv : vs[j]? = some x) : c.slots[j]? = some (Value.int x) := by
  rw [← Array.getElem?_toList, q]; simp [hv]
theorem AI.inb {vs : List Int32} {c : Cell} {j : Int32} (q : c.slots.toList = vs.map Value.int) (hj : ¬ j < 0) (hl : j.toNatClampNeg < vs.length) : ¬ (j < 0 ∨ c.slots.size ≤ j.toNatClampNeg) := by
  have := AI.sz q
  rw [this]
  rintro (r | r)
  · exact hj r
  · omega
theorem AJ.lt {a : Addr} {vs : List Int64} (F : AJ Z h a vs) : a < h.size := by obtain ⟨c, q, -⟩ := F; exact q.lt
theorem AJ.ext {a : Addr} {vs : List Int64} (F : AJ Z h a vs) (E : Ext h h') : AJ Z h' a vs := by obtain ⟨c, q, r⟩ := F; exact ⟨c, q.ext E, r⟩
theorem AJ.other {a b : Addr} {vs : List Int64} {sl : Nat} {v : Value} (F : AJ Z h a vs) (W : Wr h h' b sl v) (q : a ≠ b) : AJ Z h' a vs := by obtain ⟨c, A, r⟩ := F; exact ⟨c, A.other W q, r⟩
theorem AJ.keep {a : Addr} {vs : List Int64} {ws : List Addr} (F : AJ Z h a vs) (K : Keep h h' ws) (q : a ∉ ws) : AJ Z h' a vs := by obtain ⟨c, A, r⟩ := F; exact ⟨c, ⟨K.2.1 a c A.1 q, A.2⟩, r⟩
theorem AJ.new {a : Addr} {k : ClassId} {z : Int32} (A : Arr Z h a (newA k .long z) .long) : AJ Z h a (List.replicate z.toNatClampNeg 0) := by
  refine ⟨_, A, ?_, ?_⟩
  · simp [newA, defaultValue]
  · have := z.toInt_lt; rw [List.length_replicate]; show z.toInt.toNat < _; omega
theorem AJ.wr {a : Addr} {vs : List Int64} {j : Nat} {x : Int64} (F : AJ Z h a vs) (W : Wr h h' a j (Value.long x)) : AJ Z h' a (vs.set j x) := by
  obtain ⟨c, A, q, r⟩ := F
  refine ⟨_, A.same W, ?_, by simpa using r⟩
  simp [Cell.setSlot, q, List.map_set]
theorem AJ.len {a : Addr} {vs : List Int64} (F : AJ Z h a vs) : vs.length < 2147483648 := by obtain ⟨c, q, r, t⟩ := F; exact t
theorem AJ.sz {vs : List Int64} {c : Cell} (q : c.slots.toList = vs.map Value.long) : c.slots.size = vs.length := by
  have := congrArg List.length q; simpa using this
theorem AJ.at {vs : List Int64} {c : Cell} {j : Nat} {x : Int64} (q : c.slots.toList = vs.map Value.long) (hv : vs[j]? = some x) : c.slots[j]? = some (Value.long x) := by
  rw [← Array.getElem?_toList, q]; simp [hv]
theorem AJ.inb {vs : List Int64} {c : Cell} {j : Int32} (q : c.slots.toList = vs.map Value.long) (hj : ¬ j < 0) (hl : j.toNatClampNeg < vs.length) : ¬ (j < 0 ∨ c.slots.size ≤ j.toNatClampNeg) := by
  have := AJ.sz q
  rw [this]
  rintro (r | r)
  · exact hj r
  · omega
theorem w_iaload (X : Stand p l e R s m args below meth c T locs cells slots) (hx : p.tables.exec = Jvm.exec) (hZ : Z.Warmed39 s.vm) {a : Addr} {vs : List Int32} {j : Int32} {v : Int32} (eT : T.heap = h) (F : AI Z h a .int vs) (hj : ¬ j < 0) (hv : vs[j.toNatClampNeg]? = some v) (hd : decode c.code pc = .ok (.iaload, 1)) (hp : pc + 1 = pc')
    (kk : Go p e below s cm sm Q T (mkF m pc' Ls (Value.int v :: St))) : Go p e below s cm sm Q T (mkF m pc Ls (.int j :: .ref a :: St)) := by
  subst hp
  obtain ⟨cl, A, q, r⟩ := F
  exact Go.st (fun t k => X.iaload hx (j := j) (v := Value.int v) (by rw [eT]; exact A.1) (State.isArrayOf_alike hZ.alike A.2.1) A.2.2 (AI.inb q hj (List.getElem?_eq_some_iff.mp hv).1) (AI.at q hv) (g := mkF m pc Ls (.int j :: .ref a :: St)) rfl rfl hd t k) kk
theorem w_baload (X : Stand p l e R s m args below meth c T locs cells slots) (hx : p.tables.exec = Jvm.exec) (hZ : Z.Warmed39 s.vm) {a : Addr} {vs : List Int32} {j : Int32} {v : Int32} (eT : T.heap = h) (F : AI Z h a .byte vs) (hj : ¬ j < 0) (hv : vs[j.toNatClampNeg]? = some v) (hd : decode c.code pc = .ok (.baload, 1)) (hp : pc + 1 = pc')
    (kk : Go p e below s cm sm Q T (mkF m pc' Ls (Value.int v :: St))) : Go p e below s cm sm Q T (mkF m pc Ls (.int j :: .ref a :: St)) := by
  subst hp
  obtain ⟨cl, A, q, r⟩ := F
  exact Go.st (fun t k => X.baloadBytes hx (j := j) (v := Value.int v) (by rw [eT]; exact A.1) (State.isArrayOf_alike hZ.alike A.2.1) A.2.2 (AI.inb q hj (List.getElem?_eq_some_iff.mp hv).1) (AI.at q hv) (g := mkF m pc Ls (.int j :: .ref a :: St)) rfl rfl hd t k) kk
theorem w_laload (X : Stand p l e R s m args below meth c T locs cells slots) (hx : p.tables.exec = Jvm.exec) (hZ : Z.Warmed39 s.vm) {a : Addr} {vs : List Int64} {j : Int32} {v : Int64} (eT : T.heap = h) (F : AJ Z h a vs) (hj : ¬ j < 0) (hv : vs[j.toNatClampNeg]? = some v) (hd : decode c.code pc = .ok (.laload, 1)) (hp : pc + 1 = pc')
    (kk : Go p e below s cm sm Q T (mkF m pc' Ls (Value.long v :: St))) : Go p e below s cm sm Q T (mkF m pc Ls (.int j :: .ref a :: St)) := by
  subst hp
  obtain ⟨cl, A, q, r⟩ := F
  exact Go.st (fun t k => X.laload hx (j := j) (v := Value.long v) (by rw [eT]; exact A.1) (State.isArrayOf_alike hZ.alike A.2.1) A.2.2 (AJ.inb q hj (List.getElem?_eq_some_iff.mp hv).1) (AJ.at q hv) (g := mkF m pc Ls (.int j :: .ref a :: St)) rfl rfl hd t k) kk
theorem w_iastore (X : Stand p l e R s m args below meth c T locs cells slots) (hx : p.tables.exec = Jvm.exec) (hZ : Z.Warmed39 s.vm) {a : Addr} {vs : List Int32} {j : Int32} {x : Int32} (eT : T.heap = h) (F : AI Z h a .int vs) (hj : ¬ j < 0) (hl : j.toNatClampNeg < vs.length) (hd : decode c.code pc = .ok (.iastore, 1)) (hp : pc + 1 = pc')
    (kk : ∀ (T' : State) (h' : Heap), Stand p l e R s m args below meth c T' (locs ++ [⟨a, j.toNatClampNeg⟩]) cells slots → T'.heap = h' → Wr h h' a j.toNatClampNeg (Value.int x) → AI Z h' a .int (vs.set j.toNatClampNeg x) → Go p e below s cm sm Q T' (mkF m pc' Ls St)) : Go p e below s cm sm Q T (mkF m pc Ls (Value.int x :: .int j :: .ref a :: St)) := by
  subst hp
  obtain ⟨cl, A, q, r⟩ := F
  obtain ⟨T1, h1, X1, e1, W1, st⟩ := RoadKit.stI X hx hZ eT A (j := j) (x := x) (AI.inb q hj hl) (g := mkF m pc Ls (Value.int x :: .int j :: .ref a :: St)) rfl rfl hd
  exact Go.st st (kk _ _ X1 e1 W1 (AI.wr ⟨cl, A, q, r⟩ W1))
theorem w_bastore (X : Stand p l e R s m args below meth c T locs cells slots) (hx : p.tables.exec = Jvm.exec) (hZ : Z.Warmed39 s.vm) {a : Addr} {vs : List Int32} {j : Int32} {x : Int32} (eT : T.heap = h) (F : AI Z h a .byte vs) (hj : ¬ j < 0) (hl : j.toNatClampNeg < vs.length) (hd : decode c.code pc = .ok (.bastore, 1)) (hp : pc + 1 = pc')
    (kk : ∀ (T' : State) (h' : Heap), Stand p l e R s m args below meth c T' (locs ++ [⟨a, j.toNatClampNeg⟩]) cells slots → T'.heap = h' → Wr h h' a j.toNatClampNeg (Value.int (nar .byte x)) → AI Z h' a .byte (vs.set j.toNatClampNeg (nar .byte x)) → Go p e below s cm sm Q T' (mkF m pc' Ls St)) : Go p e below s cm sm Q T (mkF m pc Ls (Value.int x :: .int j :: .ref a :: St)) := by
  subst hp
  obtain ⟨cl, A, q, r⟩ := F
  obtain ⟨T1, h1, X1, e1, W1, st⟩ := RoadKit.stB X hx hZ eT A (j := j) (x := x) (AI.inb q hj hl) (g := mkF m pc Ls (Value.int x :: .int j :: .ref a :: St)) rfl rfl hd
  exact Go.st st (kk _ _ X1 e1 W1 (AI.wr ⟨cl, A, q, r⟩ W1))
theorem w_lastore (X : Stand p l e R s m args below meth c T locs cells slots) (hx : p.tables.exec = Jvm.exec) (hZ : Z.Warmed39 s.vm) {a : Addr} {vs : List Int64} {j : Int32} {x : Int64} (eT : T.heap = h) (F : AJ Z h a vs) (hj : ¬ j < 0) (hl : j.toNatClampNeg < vs.length) (hd : decode c.code pc = .ok (.lastore, 1)) (hp : pc + 1 = pc')
    (kk : ∀ (T' : State) (h' : Heap), Stand p l e R s m args below meth c T' (locs ++ [⟨a, j.toNatClampNeg⟩]) cells slots → T'.heap = h' → Wr h h' a j.toNatClampNeg (Value.long x) → AJ Z h' a (vs.set j.toNatClampNeg x) → Go p e below s cm sm Q T' (mkF m pc' Ls St)) : Go p e below s cm sm Q T (mkF m pc Ls (Value.long x :: .int j :: .ref a :: St)) := by
  subst hp
  obtain ⟨cl, A, q, r⟩ := F
  obtain ⟨T1, h1, X1, e1, W1, st⟩ := RoadKit.stJ X hx hZ eT A (j := j) (x := x) (AJ.inb q hj hl) (g := mkF m pc Ls (Value.long x :: .int j :: .ref a :: St)) rfl rfl hd
  exact Go.st st (kk _ _ X1 e1 W1 (AJ.wr ⟨cl, A, q, r⟩ W1))
theorem w_alenI (X : Stand p l e R s m args below meth c T locs cells slots) (hx : p.tables.exec = Jvm.exec) (hZ : Z.Warmed39 s.vm) {a : Addr} {ty : FieldType} {vs : List Int32} {n : Int32} (eT : T.heap = h) (F : AI Z h a ty vs) (hn : vs.length.toInt32 = n) (hd : decode c.code pc = .ok (.arraylength, 1)) (hp : pc + 1 = pc')
    (kk : Go p e below s cm sm Q T (mkF m pc' Ls (.int n :: St))) : Go p e below s cm sm Q T (mkF m pc Ls (.ref a :: St)) := by
  subst hp hn
  obtain ⟨cl, A, q, r⟩ := F
  have hs := AI.sz q
  exact Go.st (fun t k => X.arraylength hx (by rw [eT]; exact A.1) (State.isArrayOf_alike hZ.alike A.2.1) (g := mkF m pc Ls (.ref a :: St)) rfl rfl hd t (by rw [hs]; exact k)) kk
theorem w_alenJ (X : Stand p l e R s m args below meth c T locs cells slots) (hx : p.tables.exec = Jvm.exec) (hZ : Z.Warmed39 s.vm) {a : Addr} {vs : List Int64} {n : Int32} (eT : T.heap = h) (F : AJ Z h a vs) (hn : vs.length.toInt32 = n) (hd : decode c.code pc = .ok (.arraylength, 1)) (hp : pc + 1 = pc')
    (kk : Go p e below s cm sm Q T (mkF m pc' Ls (.int n :: St))) : Go p e below s cm sm Q T (mkF m pc Ls (.ref a :: St)) := by
  subst hp hn
  obtain ⟨cl, A, q, r⟩ := F
  have hs := AJ.sz q
  exact Go.st (fun t k => X.arraylength hx (by rw [eT]; exact A.1) (State.isArrayOf_alike hZ.alike A.2.1) (g := mkF m pc Ls (.ref a :: St)) rfl rfl hd t (by rw [hs]; exact k)) kk
theorem w_newI (X : Stand p l e R s m args below meth c T locs cells slots) (hx : p.tables.exec = Jvm.exec) (hZ : Z.Warmed39 s.vm) {n : Int32} {cap : Nat} (eT : T.heap = h) (w : (Jvm.Cond.arrayClass .int).before a0 Z = true) (hn : ¬ n < 0) (hcap : n.toNatClampNeg ≤ cap) (hb : cap * 8 ≤ 536870912) (hc : cells + 1 ≤ R.cells) (hl : slots + cap ≤ R.slots) (hd : decode c.code pc = .ok (.newarray .int, 2)) (hp : pc + 2 = pc')
    (kk : ∀ (T' : State) (h' : Heap) (b : Addr), Stand p l e R s m args below meth c T' locs (cells + 1) (slots + cap) → T'.heap = h' → Ext h h' → b = h.size → AI Z h' b .int (List.replicate n.toNatClampNeg 0) → Go p e below s cm sm Q T' (mkF m pc' Ls (.ref b :: St))) : Go p e below s cm sm Q T (mkF m pc Ls (.int n :: St)) := by
  subst hp
  obtain ⟨T1, h1, k1, X1, e1, E1, A1, st⟩ := newP X hx hZ (aty := .int) w eT (g := mkF m pc Ls (.int n :: St)) rfl hd rfl hn (cap := cap) hcap hb hc hl
  exact Go.st st (kk _ _ _ X1 e1 E1 rfl (AI.new A1 rfl))
theorem w_newB (X : Stand p l e R s m args below meth c T locs cells slots) (hx : p.tables.exec = Jvm.exec) (hZ : Z.Warmed39 s.vm) {n : Int32} {cap : Nat} (eT : T.heap = h) (w : (Jvm.Cond.arrayClass .byte).before a0 Z = true) (hn : ¬ n < 0) (hcap : n.toNatClampNeg ≤ cap) (hb : cap * 8 ≤ 536870912) (hc : cells + 1 ≤ R.cells) (hl : slots + cap ≤ R.slots) (hd : decode c.code pc = .ok (.newarray .byte, 2)) (hp : pc + 2 = pc')
    (kk : ∀ (T' : State) (h' : Heap) (b : Addr), Stand p l e R s m args below meth c T' locs (cells + 1) (slots + cap) → T'.heap = h' → Ext h h' → b = h.size → AI Z h' b .byte (List.replicate n.toNatClampNeg 0) → Go p e below s cm sm Q T' (mkF m pc' Ls (.ref b :: St))) : Go p e below s cm sm Q T (mkF m pc Ls (.int n :: St)) := by
  subst hp
  obtain ⟨T1, h1, k1, X1, e1, E1, A1, st⟩ := newP X hx hZ (aty := .byte) w eT (g := mkF m pc Ls (.int n :: St)) rfl hd rfl hn (cap := cap) hcap hb hc hl
  exact Go.st st (kk _ _ _ X1 e1 E1 rfl (AI.new A1 rfl))
theorem w_newJ (X : Stand p l e R s m args below meth c T locs cells slots) (hx : p.tables.exec = Jvm.exec) (hZ : Z.Warmed39 s.vm) {n : Int32} {cap : Nat} (eT : T.heap = h) (w : (Jvm.Cond.arrayClass .long).before a0 Z = true) (hn : ¬ n < 0) (hcap : n.toNatClampNeg ≤ cap) (hb : cap * 8 ≤ 536870912) (hc : cells + 1 ≤ R.cells) (hl : slots + cap ≤ R.slots) (hd : decode c.code pc = .ok (.newarray .long, 2)) (hp : pc + 2 = pc')
    (kk : ∀ (T' : State) (h' : Heap) (b : Addr), Stand p l e R s m args below meth c T' locs (cells + 1) (slots + cap) → T'.heap = h' → Ext h h' → b = h.size → AJ Z h' b (List.replicate n.toNatClampNeg 0) → Go p e below s cm sm Q T' (mkF m pc' Ls (.ref b :: St))) : Go p e below s cm sm Q T (mkF m pc Ls (.int n :: St)) := by
  subst hp
  obtain ⟨T1, h1, k1, X1, e1, E1, A1, st⟩ := newP X hx hZ (aty := .long) w eT (g := mkF m pc Ls (.int n :: St)) rfl hd rfl hn (cap := cap) hcap hb hc hl
  exact Go.st st (kk _ _ _ X1 e1 E1 rfl (AJ.new A1))
theorem w_callP (X : Stand p l e R s m args below meth c T locs cells slots) (hx : p.tables.exec = Jvm.exec) (hZ : Z.Warmed39 s.vm) {own : String} {index : Nat} {y : MethodName} {bytes : ByteArray} {maxL : Nat} {ret : Option FieldType} {rm : Room} {W : Nat} {argsL rest : List Value} {Qc : Option Value → Heap → List Loc → Prop} {a : Addr} (hown : s.vm.findClass own = some m.cls) (eT : T.heap = h) (E : Exa Z h a y.cls) (C : Con l Z y bytes maxL ret rm (.ref a :: argsL).toArray h Qc) (w1 : (Jvm.Cond.methodLink own index y).before a0 Z = true) (w2 : (Jvm.Cond.instanceMethod y).before a0 Z = true) (ws : (Jvm.Cond.selects y.cls y y).before a0 Z = true) (wp : (Jvm.Cond.privateMethod y).before a0 Z = true) (w3 : (Jvm.Cond.initialized y.cls).before a0 Z = true) (w4 : (Jvm.Cond.code y bytes maxL ret).before a0 Z = true) (hy : y.cls ≠ "java/lang/invoke/MethodHandle" ∧ y.cls ≠ "java/lang/invoke/VarHandle")
    (hf : rm.frames + 1 ≤ R.frames) (hl : W + (maxL + 11) + rm.locals ≤ R.locals) (hc : cells + rm.cells ≤ R.cells) (hs : slots + rm.slots ≤ R.slots) (hsz : Ls.size = c.maxLocals) (hlen : ∀ sig, parseMethodDescriptor y.desc = some sig → argsL.length = sig.parameters.length) (hW : (rest.map fun v => v.category).sum ≤ W) (hst : St = argsL.reverse ++ .ref a :: rest) (hd : decode c.code pc = .ok (.invokevirtual index, 3)) (hp : pc + 3 = pc')
    (kk : ∀ (T' : State) (L : List Loc) (v : Option Value), Stand p l e R s m args below meth c T' (locs ++ L) (cells + rm.cells) (slots + rm.slots) → Qc v T'.heap L → Go p e below s cm sm Q T' (mkF m pc' Ls (v.toList ++ rest))) : Go p e below s cm sm Q T (mkF m pc Ls St) := by
  subst hp hst
  obtain ⟨cq, q1, q2⟩ := E.cell
  obtain ⟨v, _, ⟨T1, L1, k1, n1⟩, -, X1, ⟨Lc, hQ, l1, y1, z1⟩, st⟩ := X.privateBack hx (y := y) hown (mvT hZ w1) (mvT hZ w2) (mvT hZ ws) (Cond.privateMethod_at (mvP hZ wp (args := #[]))) (mvT hZ w4) hy (C.back (W := W) hZ w4 w3 hf hl) (g := mkF m pc Ls (argsL.reverse ++ .ref a :: rest)) rfl hsz (Steps.refl _) (a := a) (by rw [eT]; exact q1) q2 (argsL := argsL) (rest := rest) hlen rfl (by show 2 * 0 + _ ≤ _; rw [Nat.mul_zero, Nat.zero_add]; exact hW) hd (fun _ _ => ⟨rfl, eT, hc, hs⟩)
  dsimp only [Pt.U, Pt.locs, Pt.cells, Pt.slots] at X1 l1 y1 z1 st hQ
  subst l1 y1 z1
  exact Go.st (fun t q => st.trans q) (kk _ _ _ X1 hQ)
theorem w_ifnullNo (X : Stand p l e R s m args below meth c T locs cells slots) (hx : p.tables.exec = Jvm.exec) {o : Int} {b : Addr} (hd : decode c.code pc = .ok (.ifnull o, 3)) (hp : pc + 3 = pc') (kk : Go p e below s cm sm Q T (mkF m pc' Ls St)) : Go p e below s cm sm Q T (mkF m pc Ls (.ref b :: St)) := by
  subst hp
  exact Go.st (fun t q => XS.ifnullNo (g := mkF m pc Ls (.ref b :: St)) X.here hx rfl hd rfl q) kk
theorem own_len {n k : Nat} (h : n < 2147483648) (hk : k < 2147483648) (hc : ¬ n.toInt32 < k.toInt32) : k ≤ n := by
  rw [Int32.lt_iff_toInt_lt, len_toInt h, len_toInt hk] at hc
  omega
theorem own_len' {n k : Nat} (h : n < 2147483648) (hk : k < 2147483648) (hc : n.toInt32 < k.toInt32) : n < k := by
  rw [Int32.lt_iff_toInt_lt, len_toInt h, len_toInt hk] at hc
  omega
theorem own_getD {α : Type} {vs : List α} {j : Nat} {d : α} (h : j < vs.length) : vs[j]? = some (vs.getD j d) := by simp [h]
theorem own_nar0 : nar .boolean 0 = 0 := by decide
theorem own_nar1 : nar .boolean 1 = 1 := by decide
theorem w_up {c' s' : Nat} (X : Stand p l e R s m args below meth c T locs cells slots) (h1 : cells ≤ c') (h2 : slots ≤ s') : Stand p l e R s m args below meth c T locs c' s' :=
  ⟨X.admits, X.cas, X.clock, X.frames, X.room, X.hears, X.method, X.code, X.here, X.tail, X.warmed, X.limits, X.bytes, X.same.mono h1 h2⟩
end OwnKit
theorem pd_0 : parseMethodDescriptor "(IIII)[I" = some ⟨[.int, .int, .int, .int], some (.array .int)⟩ := by decide +kernel
theorem pd_1 : parseMethodDescriptor "(IIIII)I" = some ⟨[.int, .int, .int, .int, .int], some .int⟩ := by decide +kernel
theorem pd_2 : parseMethodDescriptor "([I[II)I" = some ⟨[(.array .int), (.array .int), .int], some .int⟩ := by decide +kernel
theorem own_m (x m : Int32) {k : Nat} (hk : k < 32) (hm : m.toBitVec.toNat = 2 ^ k - 1) : 0 ≤ (x &&& m).toInt ∧ (x &&& m).toInt < 2 ^ k := by
  rw [Jvm.Kit.i32_mask x m hk hm]
  exact ⟨Int.emod_nonneg _ (by have : (0 : Int) < 2 ^ k := Int.pow_pos (by decide); omega), Int.emod_lt_of_pos _ (Int.pow_pos (by decide))⟩
theorem own_one : (1 : Int32).toInt = 1 := by decide
theorem own_zero : (0 : Int32).toInt = 0 := by decide
theorem own_toInt {x y : Int32} (h : x.toInt = y.toInt) : x = y := Int32.toInt_inj.mp h
theorem own_and1 (x : Int32) : x &&& 1 = 0 ∨ x &&& 1 = 1 := and_one x
theorem own_and3 (x : Int32) : x &&& 3 = 0 ∨ x &&& 3 = 1 ∨ x &&& 3 = 2 ∨ x &&& 3 = 3 := by
  obtain ⟨h1, h2⟩ := own_m x 3 (k := 2) (by decide) (by decide)
  have e1 : (1 : Int32).toInt = 1 := by decide
  have e2 : (2 : Int32).toInt = 2 := by decide
  have e3 : (3 : Int32).toInt = 3 := by decide
  have e0 : (0 : Int32).toInt = 0 := by decide
  have : (x &&& 3).toInt = 0 ∨ (x &&& 3).toInt = 1 ∨ (x &&& 3).toInt = 2 ∨ (x &&& 3).toInt = 3 := by omega
  rcases this with h | h | h | h
  · exact Or.inl (own_toInt (h.trans e0.symm))
  · exact Or.inr (Or.inl (own_toInt (h.trans e1.symm)))
  · exact Or.inr (Or.inr (Or.inl (own_toInt (h.trans e2.symm))))
  · exact Or.inr (Or.inr (Or.inr (own_toInt (h.trans e3.symm))))
theorem own_b01 {c : Prop} [Decidable c] {v : Int32} (h : v = if c then 0 else 1) : v = 0 ∨ v = 1 := by subst h; split <;> simp
theorem own_b10 {c : Prop} [Decidable c] {v : Int32} (h : v = if c then 1 else 0) : v = 0 ∨ v = 1 := by subst h; split <;> simp
theorem own_i {n : Nat} (h : n < 2147483648) : (n.toInt32).toInt = n := len_toInt h
theorem own_nat {n : Nat} (h : n < 2147483648) : n.toInt32.toNatClampNeg = n := by
  show n.toInt32.toInt.toNat = n
  rw [own_i h]; rfl
theorem own_nneg {n : Nat} (h : n < 2147483648) : ¬ n.toInt32 < 0 := by
  rw [Int32.lt_iff_toInt_lt, own_i h, own_zero]; omega
theorem own_ilt {a b : Nat} (ha : a < 2147483648) (hb : b < 2147483648) : (a.toInt32 < b.toInt32) ↔ a < b := by
  rw [Int32.lt_iff_toInt_lt, own_i ha, own_i hb]; omega
theorem own_ieq {a b : Nat} (ha : a < 2147483648) (hb : b < 2147483648) : (a.toInt32 = b.toInt32) ↔ a = b := by
  rw [← Int32.toInt_inj, own_i ha, own_i hb]; omega
theorem own_iinc {n : Nat} (h : n + 1 < 2147483648) : n.toInt32 + 1 = (n + 1).toInt32 := by
  apply own_toInt
  rw [Jvm.Kit.i32_add (by rw [own_i (by omega), own_one]; omega) (by rw [own_i (by omega), own_one]; omega), own_i (by omega), own_i h, own_one]
  omega
theorem own_idec {n : Nat} (h : n + 1 < 2147483648) : (n + 1).toInt32 - 1 = n.toInt32 := by
  apply own_toInt
  rw [Jvm.Kit.i32_sub (by rw [own_i h, own_one]; omega) (by rw [own_i h, own_one]; omega), own_i h, own_i (by omega), own_one]
  omega
theorem d3_0 : decode method_3_code 0 = .ok (.iload_n 1, 1) := by decide +kernel
theorem d3_1 : decode method_3_code 1 = .ok (.ifCond .le 8, 3) := by decide +kernel
theorem d3_4 : decode method_3_code 4 = .ok (.iload_n 0, 1) := by decide +kernel
theorem d3_5 : decode method_3_code 5 = .ok (.iload_n 2, 1) := by decide +kernel
theorem d3_6 : decode method_3_code 6 = .ok (.if_icmp .eq 24, 3) := by decide +kernel
theorem d3_9 : decode method_3_code 9 = .ok (.iload_n 1, 1) := by decide +kernel
theorem d3_10 : decode method_3_code 10 = .ok (.iconst 1, 1) := by decide +kernel
theorem d3_11 : decode method_3_code 11 = .ok (.if_icmp .le 8, 3) := by decide +kernel
theorem d3_14 : decode method_3_code 14 = .ok (.iload_n 0, 1) := by decide +kernel
theorem d3_15 : decode method_3_code 15 = .ok (.iload_n 3, 1) := by decide +kernel
theorem d3_16 : decode method_3_code 16 = .ok (.if_icmp .eq 14, 3) := by decide +kernel
theorem d3_19 : decode method_3_code 19 = .ok (.iload_n 1, 1) := by decide +kernel
theorem d3_20 : decode method_3_code 20 = .ok (.iconst 2, 1) := by decide +kernel
theorem d3_21 : decode method_3_code 21 = .ok (.if_icmp .le 13, 3) := by decide +kernel
theorem d3_24 : decode method_3_code 24 = .ok (.iload_n 0, 1) := by decide +kernel
theorem d3_25 : decode method_3_code 25 = .ok (.iload 4, 2) := by decide +kernel
theorem d3_27 : decode method_3_code 27 = .ok (.if_icmp .ne 7, 3) := by decide +kernel
theorem d3_30 : decode method_3_code 30 = .ok (.iconst 1, 1) := by decide +kernel
theorem d3_31 : decode method_3_code 31 = .ok (.goto 4, 3) := by decide +kernel
theorem d3_34 : decode method_3_code 34 = .ok (.iconst 0, 1) := by decide +kernel
theorem d3_35 : decode method_3_code 35 = .ok (.istore 5, 2) := by decide +kernel
theorem d3_37 : decode method_3_code 37 = .ok (.iload 5, 2) := by decide +kernel
theorem d3_39 : decode method_3_code 39 = .ok (.ifCond .eq 7, 3) := by decide +kernel
theorem d3_42 : decode method_3_code 42 = .ok (.iconst 1, 1) := by decide +kernel
theorem d3_43 : decode method_3_code 43 = .ok (.goto 4, 3) := by decide +kernel
theorem d3_46 : decode method_3_code 46 = .ok (.iconst 0, 1) := by decide +kernel
theorem d3_47 : decode method_3_code 47 = .ok (.ireturn, 1) := by decide +kernel
def K3_35 (y0 : Int32) : Int32 :=
  (if y0 = (0 : Int32) then (0 : Int32)
  else (1 : Int32))
set_option maxRecDepth 65536 in
set_option maxHeartbeats 4000000 in
theorem bk3_35 {p : Program} {l : Launch} {e : Env} {s : State} {m : MethodId} {args : Array Value} {below : List Frame} {meth : Method} {c : Code} {T : State} {locs : List Loc} {Z : State} {a0 : Array Value} {h0 : Heap} {n0 : Nat} (X : Stand p l e ({ frames := 0, cells := 0, slots := 0, locals := 0 } : Room) s m args below meth c T locs 0 0) (hx : p.tables.exec = Jvm.exec) (hZ : Z.Warmed39 s.vm) (hw : ∀ d ∈ tables_1, d.before a0 Z = true) (hby : c.code = method_3_code) (hml : c.maxLocals = 6) (hown : s.vm.findClass "com/example/facet/facet/regex/RangesDifferenceSizePinLaw" = some m.cls) (hret : meth.sig.returnType = (some .int)) (hlk : meth.locks = false) (e0 : T.heap = h0) (N0 : Fr n0 locs) (x0 : Int32) (x1 : Int32) (x2 : Int32) (x3 : Int32) (x4 : Int32) (y0 : Int32) :
    Go p e below s 0 0 (QP (some (.int (K3_35 y0))) h0 n0) T (mkF m 35 #[.val (.int x0), .val (.int x1), .val (.int x2), .val (.int x3), .val (.int x4), .unset] [(.int y0)]) := by
  rw [K3_35]
  refine w_istore (Ls' := #[.val (.int x0), .val (.int x1), .val (.int x2), .val (.int x3), .val (.int x4), .val (.int y0)]) X hx (hb hby d3_35) (pc' := 37) rfl rfl ?_
  refine w_iload X hx (hb hby d3_37) (pc' := 39) rfl rfl ?_
  refine w_if_eq X hx (hb hby d3_39) (pf := 42) (pt := 46) rfl (by decide) (by decide) (fun hc39 => ?_) (fun hc39 => ?_)
  · rw [if_pos hc39]
    refine w_iconst (v := 0) X hx (hb hby d3_46) (pc' := 47) rfl rfl ?_
    exact w_retI X hx hret hlk (hb hby d3_47) (by decide) (by decide) ⟨rfl, N0, e0⟩
  · rw [if_neg hc39]
    refine w_iconst (v := 1) X hx (hb hby d3_42) (pc' := 43) rfl rfl ?_
    refine w_goto X hx (hb hby d3_43) (pc' := 47) (by decide) (by decide) ?_
    exact w_retI X hx hret hlk (hb hby d3_47) (by decide) (by decide) ⟨rfl, N0, e0⟩
def K3_19 (x0 : Int32) (x1 : Int32) (x4 : Int32) : Int32 :=
  (if (2 : Int32) < x1 then (if x0 = x4 then (K3_35 (1 : Int32))
   else (K3_35 (0 : Int32)))
  else (K3_35 (0 : Int32)))
set_option maxRecDepth 65536 in
set_option maxHeartbeats 4000000 in
theorem bk3_19 {p : Program} {l : Launch} {e : Env} {s : State} {m : MethodId} {args : Array Value} {below : List Frame} {meth : Method} {c : Code} {T : State} {locs : List Loc} {Z : State} {a0 : Array Value} {h0 : Heap} {n0 : Nat} (X : Stand p l e ({ frames := 0, cells := 0, slots := 0, locals := 0 } : Room) s m args below meth c T locs 0 0) (hx : p.tables.exec = Jvm.exec) (hZ : Z.Warmed39 s.vm) (hw : ∀ d ∈ tables_1, d.before a0 Z = true) (hby : c.code = method_3_code) (hml : c.maxLocals = 6) (hown : s.vm.findClass "com/example/facet/facet/regex/RangesDifferenceSizePinLaw" = some m.cls) (hret : meth.sig.returnType = (some .int)) (hlk : meth.locks = false) (e0 : T.heap = h0) (N0 : Fr n0 locs) (x0 : Int32) (x1 : Int32) (x2 : Int32) (x3 : Int32) (x4 : Int32) :
    Go p e below s 0 0 (QP (some (.int (K3_19 x0 x1 x4))) h0 n0) T (mkF m 19 #[.val (.int x0), .val (.int x1), .val (.int x2), .val (.int x3), .val (.int x4), .unset] []) := by
  rw [K3_19]
  refine w_iloadN X hx (hb hby d3_19) (pc' := 20) rfl rfl ?_
  refine w_iconst (v := 2) X hx (hb hby d3_20) (pc' := 21) rfl rfl ?_
  refine w_icmp_le X hx (hb hby d3_21) (pf := 24) (pt := 34) rfl (by decide) (by decide) (fun hc21 => ?_) (fun hc21 => ?_)
  · rw [if_neg hc21]
    refine w_iconst (v := 0) X hx (hb hby d3_34) (pc' := 35) rfl rfl ?_
    exact bk3_35 X hx hZ hw hby hml hown hret hlk e0 N0 x0 x1 x2 x3 x4 (0 : Int32)
  · rw [if_pos hc21]
    refine w_iloadN X hx (hb hby d3_24) (pc' := 25) rfl rfl ?_
    refine w_iload X hx (hb hby d3_25) (pc' := 27) rfl rfl ?_
    refine w_icmp_ne X hx (hb hby d3_27) (pf := 30) (pt := 34) rfl (by decide) (by decide) (fun hc27 => ?_) (fun hc27 => ?_)
    · rw [if_neg hc27]
      refine w_iconst (v := 0) X hx (hb hby d3_34) (pc' := 35) rfl rfl ?_
      exact bk3_35 X hx hZ hw hby hml hown hret hlk e0 N0 x0 x1 x2 x3 x4 (0 : Int32)
    · rw [if_pos hc27]
      refine w_iconst (v := 1) X hx (hb hby d3_30) (pc' := 31) rfl rfl ?_
      refine w_goto X hx (hb hby d3_31) (pc' := 35) (by decide) (by decide) ?_
      exact bk3_35 X hx hZ hw hby hml hown hret hlk e0 N0 x0 x1 x2 x3 x4 (1 : Int32)
def K3_9 (x0 : Int32) (x1 : Int32) (x3 : Int32) (x4 : Int32) : Int32 :=
  (if (1 : Int32) < x1 then (if x0 = x3 then (K3_35 (1 : Int32))
   else (K3_19 x0 x1 x4))
  else (K3_19 x0 x1 x4))
set_option maxRecDepth 65536 in
set_option maxHeartbeats 4000000 in
theorem bk3_9 {p : Program} {l : Launch} {e : Env} {s : State} {m : MethodId} {args : Array Value} {below : List Frame} {meth : Method} {c : Code} {T : State} {locs : List Loc} {Z : State} {a0 : Array Value} {h0 : Heap} {n0 : Nat} (X : Stand p l e ({ frames := 0, cells := 0, slots := 0, locals := 0 } : Room) s m args below meth c T locs 0 0) (hx : p.tables.exec = Jvm.exec) (hZ : Z.Warmed39 s.vm) (hw : ∀ d ∈ tables_1, d.before a0 Z = true) (hby : c.code = method_3_code) (hml : c.maxLocals = 6) (hown : s.vm.findClass "com/example/facet/facet/regex/RangesDifferenceSizePinLaw" = some m.cls) (hret : meth.sig.returnType = (some .int)) (hlk : meth.locks = false) (e0 : T.heap = h0) (N0 : Fr n0 locs) (x0 : Int32) (x1 : Int32) (x2 : Int32) (x3 : Int32) (x4 : Int32) :
    Go p e below s 0 0 (QP (some (.int (K3_9 x0 x1 x3 x4))) h0 n0) T (mkF m 9 #[.val (.int x0), .val (.int x1), .val (.int x2), .val (.int x3), .val (.int x4), .unset] []) := by
  rw [K3_9]
  refine w_iloadN X hx (hb hby d3_9) (pc' := 10) rfl rfl ?_
  refine w_iconst (v := 1) X hx (hb hby d3_10) (pc' := 11) rfl rfl ?_
  refine w_icmp_le X hx (hb hby d3_11) (pf := 14) (pt := 19) rfl (by decide) (by decide) (fun hc11 => ?_) (fun hc11 => ?_)
  · rw [if_neg hc11]
    exact bk3_19 X hx hZ hw hby hml hown hret hlk e0 N0 x0 x1 x2 x3 x4
  · rw [if_pos hc11]
    refine w_iloadN X hx (hb hby d3_14) (pc' := 15) rfl rfl ?_
    refine w_iloadN X hx (hb hby d3_15) (pc' := 16) rfl rfl ?_
    refine w_icmp_eq X hx (hb hby d3_16) (pf := 19) (pt := 30) rfl (by decide) (by decide) (fun hc16 => ?_) (fun hc16 => ?_)
    · rw [if_pos hc16]
      refine w_iconst (v := 1) X hx (hb hby d3_30) (pc' := 31) rfl rfl ?_
      refine w_goto X hx (hb hby d3_31) (pc' := 35) (by decide) (by decide) ?_
      exact bk3_35 X hx hZ hw hby hml hown hret hlk e0 N0 x0 x1 x2 x3 x4 (1 : Int32)
    · rw [if_neg hc16]
      exact bk3_19 X hx hZ hw hby hml hown hret hlk e0 N0 x0 x1 x2 x3 x4
def K3_0 (x0 : Int32) (x1 : Int32) (x2 : Int32) (x3 : Int32) (x4 : Int32) : Int32 :=
  (if (0 : Int32) < x1 then (if x0 = x2 then (K3_35 (1 : Int32))
   else (K3_9 x0 x1 x3 x4))
  else (K3_9 x0 x1 x3 x4))
set_option maxRecDepth 65536 in
set_option maxHeartbeats 4000000 in
theorem bk3_0 {p : Program} {l : Launch} {e : Env} {s : State} {m : MethodId} {args : Array Value} {below : List Frame} {meth : Method} {c : Code} {T : State} {locs : List Loc} {Z : State} {a0 : Array Value} {h0 : Heap} {n0 : Nat} (X : Stand p l e ({ frames := 0, cells := 0, slots := 0, locals := 0 } : Room) s m args below meth c T locs 0 0) (hx : p.tables.exec = Jvm.exec) (hZ : Z.Warmed39 s.vm) (hw : ∀ d ∈ tables_1, d.before a0 Z = true) (hby : c.code = method_3_code) (hml : c.maxLocals = 6) (hown : s.vm.findClass "com/example/facet/facet/regex/RangesDifferenceSizePinLaw" = some m.cls) (hret : meth.sig.returnType = (some .int)) (hlk : meth.locks = false) (e0 : T.heap = h0) (N0 : Fr n0 locs) (x0 : Int32) (x1 : Int32) (x2 : Int32) (x3 : Int32) (x4 : Int32) :
    Go p e below s 0 0 (QP (some (.int (K3_0 x0 x1 x2 x3 x4))) h0 n0) T (mkF m 0 #[.val (.int x0), .val (.int x1), .val (.int x2), .val (.int x3), .val (.int x4), .unset] []) := by
  rw [K3_0]
  refine w_iloadN X hx (hb hby d3_0) (pc' := 1) rfl rfl ?_
  refine w_if_le X hx (hb hby d3_1) (pf := 4) (pt := 9) rfl (by decide) (by decide) (fun hc1 => ?_) (fun hc1 => ?_)
  · rw [if_neg hc1]
    exact bk3_9 X hx hZ hw hby hml hown hret hlk e0 N0 x0 x1 x2 x3 x4
  · rw [if_pos hc1]
    refine w_iloadN X hx (hb hby d3_4) (pc' := 5) rfl rfl ?_
    refine w_iloadN X hx (hb hby d3_5) (pc' := 6) rfl rfl ?_
    refine w_icmp_eq X hx (hb hby d3_6) (pf := 9) (pt := 30) rfl (by decide) (by decide) (fun hc6 => ?_) (fun hc6 => ?_)
    · rw [if_pos hc6]
      refine w_iconst (v := 1) X hx (hb hby d3_30) (pc' := 31) rfl rfl ?_
      refine w_goto X hx (hb hby d3_31) (pc' := 35) (by decide) (by decide) ?_
      exact bk3_35 X hx hZ hw hby hml hown hret hlk e0 N0 x0 x1 x2 x3 x4 (1 : Int32)
    · rw [if_neg hc6]
      exact bk3_9 X hx hZ hw hby hml hown hret hlk e0 N0 x0 x1 x2 x3 x4
theorem ef_3 (m : MethodId) (x0 : Int32) (x1 : Int32) (x2 : Int32) (x3 : Int32) (x4 : Int32) : entryFrame m #[(.int x0), (.int x1), (.int x2), (.int x3), (.int x4)] 6 = mkF m 0 #[.val (.int x0), .val (.int x1), .val (.int x2), .val (.int x3), .val (.int x4), .unset] [] := by first | (simp [entryFrame, mkF, argsToLocals, Value.category]; done) | rfl
theorem rm3 (l : Launch) (Z : State) (a0 : Array Value) (hw : ∀ d ∈ tables_1, d.before a0 Z = true) (x0 : Int32) (x1 : Int32) (x2 : Int32) (x3 : Int32) (x4 : Int32) (h0 : Heap) (n0 : Nat) :
    Con l Z (⟨"com/example/facet/facet/regex/RangesDifferenceSizePinLaw", "hit", "(IIIII)I"⟩ : MethodName) method_3_code 6 (some .int) ({ frames := 0, cells := 0, slots := 0, locals := 0 } : Room) #[(.int x0), (.int x1), (.int x2), (.int x3), (.int x4)] h0 (QP (some (.int (K3_0 x0 x1 x2 x3 x4))) h0 n0) := by
  refine Con.of (plainFor_of_name (by first | (simp [plainName, overriddenIn]; done) | decide +kernel)) ?_
  intro p e s m below meth c T X hx hZ hby hml hown hnm hret hlk e0
  rw [ef_3]
  exact bk3_0 X hx hZ hw hby hml hown hret hlk e0 (Fr.nil n0) x0 x1 x2 x3 x4
def own_edges (n a b c : Int32) : List Int32 := if n = (0 : Int32) then [] else (if n = (1 : Int32) then [a] else (if n = (2 : Int32) then [a, b] else [a, b, c]))
theorem d1_0 : decode method_2_code 0 = .ok (.iload_n 0, 1) := by decide +kernel
theorem d1_1 : decode method_2_code 1 = .ok (.ifCond .ne 7, 3) := by decide +kernel
theorem d1_4 : decode method_2_code 4 = .ok (.iconst 0, 1) := by decide +kernel
theorem d1_5 : decode method_2_code 5 = .ok (.newarray .int, 2) := by decide +kernel
theorem d1_7 : decode method_2_code 7 = .ok (.areturn, 1) := by decide +kernel
theorem d1_8 : decode method_2_code 8 = .ok (.iload_n 0, 1) := by decide +kernel
theorem d1_9 : decode method_2_code 9 = .ok (.iconst 1, 1) := by decide +kernel
theorem d1_10 : decode method_2_code 10 = .ok (.if_icmp .ne 11, 3) := by decide +kernel
theorem d1_13 : decode method_2_code 13 = .ok (.iconst 1, 1) := by decide +kernel
theorem d1_14 : decode method_2_code 14 = .ok (.newarray .int, 2) := by decide +kernel
theorem d1_16 : decode method_2_code 16 = .ok (.dup, 1) := by decide +kernel
theorem d1_17 : decode method_2_code 17 = .ok (.iconst 0, 1) := by decide +kernel
theorem d1_18 : decode method_2_code 18 = .ok (.iload_n 1, 1) := by decide +kernel
theorem d1_19 : decode method_2_code 19 = .ok (.iastore, 1) := by decide +kernel
theorem d1_20 : decode method_2_code 20 = .ok (.areturn, 1) := by decide +kernel
theorem d1_21 : decode method_2_code 21 = .ok (.iload_n 0, 1) := by decide +kernel
theorem d1_22 : decode method_2_code 22 = .ok (.iconst 2, 1) := by decide +kernel
theorem d1_23 : decode method_2_code 23 = .ok (.if_icmp .ne 15, 3) := by decide +kernel
theorem d1_26 : decode method_2_code 26 = .ok (.iconst 2, 1) := by decide +kernel
theorem d1_27 : decode method_2_code 27 = .ok (.newarray .int, 2) := by decide +kernel
theorem d1_29 : decode method_2_code 29 = .ok (.dup, 1) := by decide +kernel
theorem d1_30 : decode method_2_code 30 = .ok (.iconst 0, 1) := by decide +kernel
theorem d1_31 : decode method_2_code 31 = .ok (.iload_n 1, 1) := by decide +kernel
theorem d1_32 : decode method_2_code 32 = .ok (.iastore, 1) := by decide +kernel
theorem d1_33 : decode method_2_code 33 = .ok (.dup, 1) := by decide +kernel
theorem d1_34 : decode method_2_code 34 = .ok (.iconst 1, 1) := by decide +kernel
theorem d1_35 : decode method_2_code 35 = .ok (.iload_n 2, 1) := by decide +kernel
theorem d1_36 : decode method_2_code 36 = .ok (.iastore, 1) := by decide +kernel
theorem d1_37 : decode method_2_code 37 = .ok (.areturn, 1) := by decide +kernel
theorem d1_38 : decode method_2_code 38 = .ok (.iconst 3, 1) := by decide +kernel
theorem d1_39 : decode method_2_code 39 = .ok (.newarray .int, 2) := by decide +kernel
theorem d1_41 : decode method_2_code 41 = .ok (.dup, 1) := by decide +kernel
theorem d1_42 : decode method_2_code 42 = .ok (.iconst 0, 1) := by decide +kernel
theorem d1_43 : decode method_2_code 43 = .ok (.iload_n 1, 1) := by decide +kernel
theorem d1_44 : decode method_2_code 44 = .ok (.iastore, 1) := by decide +kernel
theorem d1_45 : decode method_2_code 45 = .ok (.dup, 1) := by decide +kernel
theorem d1_46 : decode method_2_code 46 = .ok (.iconst 1, 1) := by decide +kernel
theorem d1_47 : decode method_2_code 47 = .ok (.iload_n 2, 1) := by decide +kernel
theorem d1_48 : decode method_2_code 48 = .ok (.iastore, 1) := by decide +kernel
theorem d1_49 : decode method_2_code 49 = .ok (.dup, 1) := by decide +kernel
theorem d1_50 : decode method_2_code 50 = .ok (.iconst 2, 1) := by decide +kernel
theorem d1_51 : decode method_2_code 51 = .ok (.iload_n 3, 1) := by decide +kernel
theorem d1_52 : decode method_2_code 52 = .ok (.iastore, 1) := by decide +kernel
theorem d1_53 : decode method_2_code 53 = .ok (.areturn, 1) := by decide +kernel
theorem ef_1 (m : MethodId) (x0 : Int32) (x1 : Int32) (x2 : Int32) (x3 : Int32) : entryFrame m #[(.int x0), (.int x1), (.int x2), (.int x3)] 4 = mkF m 0 #[.val (.int x0), .val (.int x1), .val (.int x2), .val (.int x3)] [] := by first | (simp [entryFrame, mkF, argsToLocals, Value.category]; done) | rfl
set_option maxRecDepth 65536 in
set_option maxHeartbeats 40000000 in
theorem rm1 (l : Launch) (Z : State) (a0 : Array Value) (hw : ∀ d ∈ tables_1, d.before a0 Z = true) (x0 : Int32) (x1 : Int32) (x2 : Int32) (x3 : Int32) (h0 : Heap) (n0 : Nat) (Z0 : n0 ≤ h0.size) :
    Con l Z (⟨"com/example/facet/facet/regex/RangesDifferenceSizePinLaw", "edges", "(IIII)[I"⟩ : MethodName) method_2_code 4 (some (.array .int)) ({ frames := 0, cells := 1, slots := 3, locals := 0 } : Room) #[(.int x0), (.int x1), (.int x2), (.int x3)] h0 (fun v h L => ∃ b : Addr, v = some (.ref b) ∧ Fr n0 L ∧ Keep h0 h [] ∧ h0.size ≤ b ∧ AI Z h b .int (own_edges x0 x1 x2 x3)) := by
  refine Con.of (plainFor_of_name (by first | (simp [plainName, overriddenIn]; done) | decide +kernel)) ?_
  intro p e s m below meth c T X hx hZ hby hml hown hnm hret hlk e0
  rw [ef_1]
  have N0 := Fr.nil n0
  have KP0 := Keep.refl h0 []
  show Go p e below s 1 3 (fun v h L => ∃ b : Addr, v = some (.ref b) ∧ Fr n0 L ∧ Keep h0 h [] ∧ h0.size ≤ b ∧ AI Z h b .int (own_edges x0 x1 x2 x3)) T (mkF m 0 #[.val (.int x0), .val (.int x1), .val (.int x2), .val (.int x3)] [])
  refine w_iloadN X hx (hb hby d1_0) (pc' := 1) rfl rfl ?_
  refine w_if_ne X hx (hb hby d1_1) (pf := 4) (pt := 8) rfl (by decide) (by decide) (fun hc1 => ?_) (fun hc1 => ?_)
  · refine w_iloadN X hx (hb hby d1_8) (pc' := 9) rfl rfl ?_
    refine w_iconst (v := 1) X hx (hb hby d1_9) (pc' := 10) rfl rfl ?_
    refine w_icmp_ne X hx (hb hby d1_10) (pf := 13) (pt := 21) rfl (by decide) (by decide) (fun hc10 => ?_) (fun hc10 => ?_)
    · refine w_iloadN X hx (hb hby d1_21) (pc' := 22) rfl rfl ?_
      refine w_iconst (v := 2) X hx (hb hby d1_22) (pc' := 23) rfl rfl ?_
      refine w_icmp_ne X hx (hb hby d1_23) (pf := 26) (pt := 38) rfl (by decide) (by decide) (fun hc23 => ?_) (fun hc23 => ?_)
      · refine w_iconst (v := 3) X hx (hb hby d1_38) (pc' := 39) rfl rfl ?_
        refine w_newI X hx hZ (cap := 3) e0 (hw _ (List.mem_of_getElem? (i := 6) rfl)) (by decide) (by decide) (by decide) (by decide) (by decide) (hb hby d1_39) (pc' := 41) rfl (fun T1 h1 b1 X1 e1 E1 q1 V1 => ?_)
        have g_b1 : n0 ≤ b1 := by rw [q1]; exact Z0
        have sz_b1 : h0.size ≤ b1 := by rw [q1]; exact KP0.1
        have KP1 := KP0.ext E1
        have V1 : AI Z h1 b1 .int [(0 : Int32), (0 : Int32), (0 : Int32)] := V1
        have zn1 : n0 ≤ h1.size := Nat.le_trans Z0 E1.1
        refine w_dup X1 hx (hb hby d1_41) (pc' := 42) rfl rfl ?_
        refine w_iconst (v := 0) X1 hx (hb hby d1_42) (pc' := 43) rfl rfl ?_
        refine w_iloadN X1 hx (hb hby d1_43) (pc' := 44) rfl rfl ?_
        refine w_iastore X1 hx hZ e1 V1 (by decide) (by show _ < 3; decide) (hb hby d1_44) (pc' := 45) rfl (fun T2 h2 X2 e2 W2 V2 => ?_)
        have V2 : AI Z h2 b1 .int [x1, (0 : Int32), (0 : Int32)] := V2
        have KP2 := KP1.wr W2 (Or.inr sz_b1)
        have N2 := Fr.snoc X2 N0 g_b1
        have zn2 : n0 ≤ h2.size := by rw [W2.size]; exact zn1
        refine w_dup X2 hx (hb hby d1_45) (pc' := 46) rfl rfl ?_
        refine w_iconst (v := 1) X2 hx (hb hby d1_46) (pc' := 47) rfl rfl ?_
        refine w_iloadN X2 hx (hb hby d1_47) (pc' := 48) rfl rfl ?_
        refine w_iastore X2 hx hZ e2 V2 (by decide) (by show _ < 3; decide) (hb hby d1_48) (pc' := 49) rfl (fun T3 h3 X3 e3 W3 V3 => ?_)
        have V3 : AI Z h3 b1 .int [x1, x2, (0 : Int32)] := V3
        have KP3 := KP2.wr W3 (Or.inr sz_b1)
        have N3 := Fr.snoc X3 N2 g_b1
        have zn3 : n0 ≤ h3.size := by rw [W3.size]; exact zn2
        refine w_dup X3 hx (hb hby d1_49) (pc' := 50) rfl rfl ?_
        refine w_iconst (v := 2) X3 hx (hb hby d1_50) (pc' := 51) rfl rfl ?_
        refine w_iloadN X3 hx (hb hby d1_51) (pc' := 52) rfl rfl ?_
        refine w_iastore X3 hx hZ e3 V3 (by decide) (by show _ < 3; decide) (hb hby d1_52) (pc' := 53) rfl (fun T4 h4 X4 e4 W4 V4 => ?_)
        have V4 : AI Z h4 b1 .int [x1, x2, x3] := V4
        have KP4 := KP3.wr W4 (Or.inr sz_b1)
        have N4 := Fr.snoc X4 N3 g_b1
        have zn4 : n0 ≤ h4.size := by rw [W4.size]; exact zn3
        exact w_retA X4 hx hret rfl hlk (hb hby d1_53) (by decide) (by decide) (by rw [e4]; exact ⟨b1, rfl, N4, KP4, sz_b1, (by rw [own_edges, if_neg hc1, if_neg hc10, if_neg hc23]; exact V4)⟩)
      · refine w_iconst (v := 2) X hx (hb hby d1_26) (pc' := 27) rfl rfl ?_
        refine w_newI X hx hZ (cap := 2) e0 (hw _ (List.mem_of_getElem? (i := 6) rfl)) (by decide) (by decide) (by decide) (by decide) (by decide) (hb hby d1_27) (pc' := 29) rfl (fun T5 h5 b5 X5 e5 E5 q5 V5 => ?_)
        have g_b5 : n0 ≤ b5 := by rw [q5]; exact Z0
        have sz_b5 : h0.size ≤ b5 := by rw [q5]; exact KP0.1
        have KP5 := KP0.ext E5
        have V5 : AI Z h5 b5 .int [(0 : Int32), (0 : Int32)] := V5
        have zn5 : n0 ≤ h5.size := Nat.le_trans Z0 E5.1
        refine w_dup X5 hx (hb hby d1_29) (pc' := 30) rfl rfl ?_
        refine w_iconst (v := 0) X5 hx (hb hby d1_30) (pc' := 31) rfl rfl ?_
        refine w_iloadN X5 hx (hb hby d1_31) (pc' := 32) rfl rfl ?_
        refine w_iastore X5 hx hZ e5 V5 (by decide) (by show _ < 2; decide) (hb hby d1_32) (pc' := 33) rfl (fun T6 h6 X6 e6 W6 V6 => ?_)
        have V6 : AI Z h6 b5 .int [x1, (0 : Int32)] := V6
        have KP6 := KP5.wr W6 (Or.inr sz_b5)
        have N6 := Fr.snoc X6 N0 g_b5
        have zn6 : n0 ≤ h6.size := by rw [W6.size]; exact zn5
        refine w_dup X6 hx (hb hby d1_33) (pc' := 34) rfl rfl ?_
        refine w_iconst (v := 1) X6 hx (hb hby d1_34) (pc' := 35) rfl rfl ?_
        refine w_iloadN X6 hx (hb hby d1_35) (pc' := 36) rfl rfl ?_
        refine w_iastore X6 hx hZ e6 V6 (by decide) (by show _ < 2; decide) (hb hby d1_36) (pc' := 37) rfl (fun T7 h7 X7 e7 W7 V7 => ?_)
        have V7 : AI Z h7 b5 .int [x1, x2] := V7
        have KP7 := KP6.wr W7 (Or.inr sz_b5)
        have N7 := Fr.snoc X7 N6 g_b5
        have zn7 : n0 ≤ h7.size := by rw [W7.size]; exact zn6
        exact w_retA X7 hx hret rfl hlk (hb hby d1_37) (by decide) (by decide) (by rw [e7]; exact ⟨b5, rfl, N7, KP7, sz_b5, (by rw [own_edges, if_neg hc1, if_neg hc10, if_pos hc23]; exact V7)⟩)
    · refine w_iconst (v := 1) X hx (hb hby d1_13) (pc' := 14) rfl rfl ?_
      refine w_newI X hx hZ (cap := 1) e0 (hw _ (List.mem_of_getElem? (i := 6) rfl)) (by decide) (by decide) (by decide) (by decide) (by decide) (hb hby d1_14) (pc' := 16) rfl (fun T8 h8 b8 X8 e8 E8 q8 V8 => ?_)
      have g_b8 : n0 ≤ b8 := by rw [q8]; exact Z0
      have sz_b8 : h0.size ≤ b8 := by rw [q8]; exact KP0.1
      have KP8 := KP0.ext E8
      have V8 : AI Z h8 b8 .int [(0 : Int32)] := V8
      have zn8 : n0 ≤ h8.size := Nat.le_trans Z0 E8.1
      refine w_dup X8 hx (hb hby d1_16) (pc' := 17) rfl rfl ?_
      refine w_iconst (v := 0) X8 hx (hb hby d1_17) (pc' := 18) rfl rfl ?_
      refine w_iloadN X8 hx (hb hby d1_18) (pc' := 19) rfl rfl ?_
      refine w_iastore X8 hx hZ e8 V8 (by decide) (by show _ < 1; decide) (hb hby d1_19) (pc' := 20) rfl (fun T9 h9 X9 e9 W9 V9 => ?_)
      have V9 : AI Z h9 b8 .int [x1] := V9
      have KP9 := KP8.wr W9 (Or.inr sz_b8)
      have N9 := Fr.snoc X9 N0 g_b8
      have zn9 : n0 ≤ h9.size := by rw [W9.size]; exact zn8
      exact w_retA X9 hx hret rfl hlk (hb hby d1_20) (by decide) (by decide) (by rw [e9]; exact ⟨b8, rfl, N9, KP9, sz_b8, (by rw [own_edges, if_neg hc1, if_pos hc10]; exact V9)⟩)
  · refine w_iconst (v := 0) X hx (hb hby d1_4) (pc' := 5) rfl rfl ?_
    refine w_newI X hx hZ (cap := 0) e0 (hw _ (List.mem_of_getElem? (i := 6) rfl)) (by decide) (by decide) (by decide) (by decide) (by decide) (hb hby d1_5) (pc' := 7) rfl (fun T10 h10 b10 X10 e10 E10 q10 V10 => ?_)
    have g_b10 : n0 ≤ b10 := by rw [q10]; exact Z0
    have sz_b10 : h0.size ≤ b10 := by rw [q10]; exact KP0.1
    have KP10 := KP0.ext E10
    have V10 : AI Z h10 b10 .int [] := V10
    have zn10 : n0 ≤ h10.size := Nat.le_trans Z0 E10.1
    exact w_retA X10 hx hret rfl hlk (hb hby d1_7) (by decide) (by decide) (by rw [e10]; exact ⟨b10, rfl, N0, KP10, sz_b10, (by rw [own_edges, if_pos hc1]; exact V10)⟩)
theorem d2_0 : decode prog_49_method_17_code 0 = .ok (.iconst 0, 1) := by decide +kernel
theorem d2_1 : decode prog_49_method_17_code 1 = .ok (.istore_n 3, 1) := by decide +kernel
theorem d2_2 : decode prog_49_method_17_code 2 = .ok (.iconst 0, 1) := by decide +kernel
theorem d2_3 : decode prog_49_method_17_code 3 = .ok (.istore 4, 2) := by decide +kernel
theorem d2_5 : decode prog_49_method_17_code 5 = .ok (.iconst 0, 1) := by decide +kernel
theorem d2_6 : decode prog_49_method_17_code 6 = .ok (.istore 5, 2) := by decide +kernel
theorem d2_8 : decode prog_49_method_17_code 8 = .ok (.iload 4, 2) := by decide +kernel
theorem d2_10 : decode prog_49_method_17_code 10 = .ok (.aload_n 0, 1) := by decide +kernel
theorem d2_11 : decode prog_49_method_17_code 11 = .ok (.arraylength, 1) := by decide +kernel
theorem d2_12 : decode prog_49_method_17_code 12 = .ok (.if_icmp .ge 64, 3) := by decide +kernel
theorem d2_15 : decode prog_49_method_17_code 15 = .ok (.iload 5, 2) := by decide +kernel
theorem d2_17 : decode prog_49_method_17_code 17 = .ok (.aload_n 1, 1) := by decide +kernel
theorem d2_18 : decode prog_49_method_17_code 18 = .ok (.arraylength, 1) := by decide +kernel
theorem d2_19 : decode prog_49_method_17_code 19 = .ok (.if_icmp .ge 57, 3) := by decide +kernel
theorem d2_22 : decode prog_49_method_17_code 22 = .ok (.iload_n 3, 1) := by decide +kernel
theorem d2_23 : decode prog_49_method_17_code 23 = .ok (.iload_n 2, 1) := by decide +kernel
theorem d2_24 : decode prog_49_method_17_code 24 = .ok (.if_icmp .gt 52, 3) := by decide +kernel
theorem d2_27 : decode prog_49_method_17_code 27 = .ok (.aload_n 0, 1) := by decide +kernel
theorem d2_28 : decode prog_49_method_17_code 28 = .ok (.iload 4, 2) := by decide +kernel
theorem d2_30 : decode prog_49_method_17_code 30 = .ok (.iaload, 1) := by decide +kernel
theorem d2_31 : decode prog_49_method_17_code 31 = .ok (.aload_n 1, 1) := by decide +kernel
theorem d2_32 : decode prog_49_method_17_code 32 = .ok (.iload 5, 2) := by decide +kernel
theorem d2_34 : decode prog_49_method_17_code 34 = .ok (.iaload, 1) := by decide +kernel
theorem d2_35 : decode prog_49_method_17_code 35 = .ok (.if_icmp .ge 12, 3) := by decide +kernel
theorem d2_38 : decode prog_49_method_17_code 38 = .ok (.iinc 3 1, 3) := by decide +kernel
theorem d2_41 : decode prog_49_method_17_code 41 = .ok (.iinc 4 1, 3) := by decide +kernel
theorem d2_44 : decode prog_49_method_17_code 44 = .ok (.goto (-36), 3) := by decide +kernel
theorem d2_47 : decode prog_49_method_17_code 47 = .ok (.aload_n 1, 1) := by decide +kernel
theorem d2_48 : decode prog_49_method_17_code 48 = .ok (.iload 5, 2) := by decide +kernel
theorem d2_50 : decode prog_49_method_17_code 50 = .ok (.iaload, 1) := by decide +kernel
theorem d2_51 : decode prog_49_method_17_code 51 = .ok (.aload_n 0, 1) := by decide +kernel
theorem d2_52 : decode prog_49_method_17_code 52 = .ok (.iload 4, 2) := by decide +kernel
theorem d2_54 : decode prog_49_method_17_code 54 = .ok (.iaload, 1) := by decide +kernel
theorem d2_55 : decode prog_49_method_17_code 55 = .ok (.if_icmp .ge 12, 3) := by decide +kernel
theorem d2_58 : decode prog_49_method_17_code 58 = .ok (.iinc 3 1, 3) := by decide +kernel
theorem d2_61 : decode prog_49_method_17_code 61 = .ok (.iinc 5 1, 3) := by decide +kernel
theorem d2_64 : decode prog_49_method_17_code 64 = .ok (.goto (-56), 3) := by decide +kernel
theorem d2_67 : decode prog_49_method_17_code 67 = .ok (.iinc 4 1, 3) := by decide +kernel
theorem d2_70 : decode prog_49_method_17_code 70 = .ok (.iinc 5 1, 3) := by decide +kernel
theorem d2_73 : decode prog_49_method_17_code 73 = .ok (.goto (-65), 3) := by decide +kernel
theorem d2_76 : decode prog_49_method_17_code 76 = .ok (.iload_n 3, 1) := by decide +kernel
theorem d2_77 : decode prog_49_method_17_code 77 = .ok (.aload_n 0, 1) := by decide +kernel
theorem d2_78 : decode prog_49_method_17_code 78 = .ok (.arraylength, 1) := by decide +kernel
theorem d2_79 : decode prog_49_method_17_code 79 = .ok (.iadd, 1) := by decide +kernel
theorem d2_80 : decode prog_49_method_17_code 80 = .ok (.iload 4, 2) := by decide +kernel
theorem d2_82 : decode prog_49_method_17_code 82 = .ok (.isub, 1) := by decide +kernel
theorem d2_83 : decode prog_49_method_17_code 83 = .ok (.aload_n 1, 1) := by decide +kernel
theorem d2_84 : decode prog_49_method_17_code 84 = .ok (.arraylength, 1) := by decide +kernel
theorem d2_85 : decode prog_49_method_17_code 85 = .ok (.iadd, 1) := by decide +kernel
theorem d2_86 : decode prog_49_method_17_code 86 = .ok (.iload 5, 2) := by decide +kernel
theorem d2_88 : decode prog_49_method_17_code 88 = .ok (.isub, 1) := by decide +kernel
theorem d2_89 : decode prog_49_method_17_code 89 = .ok (.ireturn, 1) := by decide +kernel
def own_ds (m : Int32) : Nat → List Int32 → List Int32 → Nat
  | c, x :: xs, y :: ys => if m < c.toInt32 then c + (x :: xs).length + (y :: ys).length else (if x < y then own_ds m (c + 1) xs (y :: ys) else (if y < x then own_ds m (c + 1) (x :: xs) ys else own_ds m c xs ys))
  | c, a, b => c + a.length + b.length
termination_by _ a b => a.length + b.length
theorem own_ds_l (m : Int32) (c : Nat) (b : List Int32) : own_ds m c [] b = c + b.length := by
  rw [own_ds]
  · simp
  · intro x xs y ys h; cases h
theorem own_ds_r (m : Int32) (c : Nat) (a : List Int32) : own_ds m c a [] = c + a.length := by
  rw [own_ds]
  · simp
  · intro x xs y ys h h2; cases h2
theorem own_drop {vs : List Int32} {i : Nat} (h : i < vs.length) : vs.drop i = vs.getD i 0 :: vs.drop (i + 1) := by
  rw [List.drop_eq_getElem_cons h]
  simp [h]
theorem own_val {c i j p q : Nat} (hi : i ≤ p) (hj : j ≤ q) (hs : c + p + q < 2147483648) : (((c.toInt32 + p.toInt32) - i.toInt32) + q.toInt32) - j.toInt32 = (c + (p - i) + (q - j)).toInt32 := by
  have e1 : (c.toInt32 + p.toInt32).toInt = (c + p : Int) := by rw [Jvm.Kit.i32_add (by rw [own_i (by omega), own_i (by omega)]; omega) (by rw [own_i (by omega), own_i (by omega)]; omega), own_i (by omega), own_i (by omega)]
  have e2 : ((c.toInt32 + p.toInt32) - i.toInt32).toInt = (c + p - i : Int) := by rw [Jvm.Kit.i32_sub (by rw [e1, own_i (by omega)]; omega) (by rw [e1, own_i (by omega)]; omega), e1, own_i (by omega)]
  have e3 : (((c.toInt32 + p.toInt32) - i.toInt32) + q.toInt32).toInt = (c + p - i + q : Int) := by rw [Jvm.Kit.i32_add (by rw [e2, own_i (by omega)]; omega) (by rw [e2, own_i (by omega)]; omega), e2, own_i (by omega)]
  apply own_toInt
  rw [Jvm.Kit.i32_sub (by rw [e3, own_i (by omega)]; omega) (by rw [e3, own_i (by omega)]; omega), e3, own_i (by omega), own_i (by omega)]
  omega
theorem own_x1 {m : Int32} {c i j : Nat} {p q : List Int32} (hi : ¬ i < p.length) : own_ds m c (p.drop i) (q.drop j) = c + (p.length - i) + (q.length - j) := by
  rw [List.drop_of_length_le (by omega), own_ds_l, List.length_drop]; omega
theorem own_x2 {m : Int32} {c i j : Nat} {p q : List Int32} (hj : ¬ j < q.length) : own_ds m c (p.drop i) (q.drop j) = c + (p.length - i) + (q.length - j) := by
  rw [List.drop_of_length_le (l := q) (by omega), own_ds_r, List.length_drop]; omega
theorem own_x3 {m : Int32} {c i j : Nat} {p q : List Int32} (hi : i < p.length) (hj : j < q.length) (hm : m < c.toInt32) : own_ds m c (p.drop i) (q.drop j) = c + (p.length - i) + (q.length - j) := by
  rw [own_drop hi, own_drop hj, own_ds, if_pos hm]
  simp only [List.length_cons, List.length_drop]; omega
theorem own_t {m : Int32} {c i j : Nat} {p q : List Int32} (hi : i < p.length) (hj : j < q.length) (hm : ¬ m < c.toInt32) : own_ds m c (p.drop i) (q.drop j) = (if p.getD i 0 < q.getD j 0 then own_ds m (c + 1) (p.drop (i + 1)) (q.drop j) else (if q.getD j 0 < p.getD i 0 then own_ds m (c + 1) (p.drop i) (q.drop (j + 1)) else own_ds m c (p.drop (i + 1)) (q.drop (j + 1)))) := by
  conv => lhs; rw [own_drop hi, own_drop hj, own_ds, if_neg hm]
  rw [← own_drop hi, ← own_drop hj]
set_option maxRecDepth 65536 in
set_option maxHeartbeats 40000000 in
theorem lp2 {p : Program} {l : Launch} {e : Env} {s : State} {m : MethodId} {args : Array Value} {below : List Frame} {meth : Method} {c : Code} {T : State} {locs : List Loc} {Z : State} {a0 : Array Value} {h0 : Heap} {n0 : Nat} {ar br : Addr} {p_ q_ : List Int32} (X : Stand p l e ({ frames := 0, cells := 0, slots := 0, locals := 0 } : Room) s m args below meth c T locs 0 0) (hx : p.tables.exec = Jvm.exec) (hZ : Z.Warmed39 s.vm) (hw : ∀ d ∈ tables_1, d.before a0 Z = true) (hby : c.code = prog_49_method_17_code) (hml : c.maxLocals = 6) (hown : s.vm.findClass "com/example/facet/facet/regex/Ranges" = some m.cls) (hret : meth.sig.returnType = (some .int)) (hlk : meth.locks = false) (e0 : T.heap = h0) (N0 : Fr n0 locs) (V_ar : AI Z h0 ar .int p_) (V_br : AI Z h0 br .int q_) (x2 : Int32) : ∀ (f k i j : Nat), (p_.length - i) + (q_.length - j) < f → i ≤ p_.length → j ≤ q_.length → k + p_.length + q_.length < 2147483648 - f →
    Go p e below s 0 0 (QP (some (.int (own_ds x2 k (p_.drop i) (q_.drop j)).toInt32)) h0 n0) T (mkF m 8 #[.val (.ref ar), .val (.ref br), .val (.int x2), .val (.int k.toInt32), .val (.int i.toInt32), .val (.int j.toInt32)] [])
  | 0, _, _, _, hf, _, _, _ => by omega
  | f + 1, k, i, j, hf, hi, hj, hk => by
    have la := V_ar.len
    have lb := V_br.len
    refine w_iload X hx (hb hby d2_8) (pc' := 10) rfl rfl ?_
    refine w_aloadN X hx (hb hby d2_10) (pc' := 11) rfl rfl rfl ?_
    refine w_alenI X hx hZ e0 V_ar (n := (p_.length.toInt32)) rfl (hb hby d2_11) (pc' := 12) rfl ?_
    refine w_icmp_ge X hx (hb hby d2_12) (pf := 15) (pt := 76) rfl (by decide) (by decide) (fun hc12 => ?_) (fun hc12 => ?_)
    · refine w_iloadN X hx (hb hby d2_76) (pc' := 77) rfl rfl ?_
      refine w_aloadN X hx (hb hby d2_77) (pc' := 78) rfl rfl rfl ?_
      refine w_alenI X hx hZ e0 V_ar (n := (p_.length.toInt32)) rfl (hb hby d2_78) (pc' := 79) rfl ?_
      refine w_iadd X hx (hb hby d2_79) (pc' := 80) rfl ?_
      refine w_iload X hx (hb hby d2_80) (pc' := 82) rfl rfl ?_
      refine w_isub X hx (hb hby d2_82) (pc' := 83) rfl ?_
      refine w_aloadN X hx (hb hby d2_83) (pc' := 84) rfl rfl rfl ?_
      refine w_alenI X hx hZ e0 V_br (n := (q_.length.toInt32)) rfl (hb hby d2_84) (pc' := 85) rfl ?_
      refine w_iadd X hx (hb hby d2_85) (pc' := 86) rfl ?_
      refine w_iload X hx (hb hby d2_86) (pc' := 88) rfl rfl ?_
      refine w_isub X hx (hb hby d2_88) (pc' := 89) rfl ?_
      exact w_retI X hx hret hlk (hb hby d2_89) (by decide) (by decide) ⟨by rw [own_val hi hj (by omega)]; first | rw [own_x1 (fun q => hc12 ((own_ilt (by omega) (by omega)).2 q))] | rw [own_x2 (fun q => hc19 ((own_ilt (by omega) (by omega)).2 q))] | rw [own_x3 ((own_ilt (by omega) (by omega)).1 hc12) ((own_ilt (by omega) (by omega)).1 hc19) hc24], N0, e0⟩
    · refine w_iload X hx (hb hby d2_15) (pc' := 17) rfl rfl ?_
      refine w_aloadN X hx (hb hby d2_17) (pc' := 18) rfl rfl rfl ?_
      refine w_alenI X hx hZ e0 V_br (n := (q_.length.toInt32)) rfl (hb hby d2_18) (pc' := 19) rfl ?_
      refine w_icmp_ge X hx (hb hby d2_19) (pf := 22) (pt := 76) rfl (by decide) (by decide) (fun hc19 => ?_) (fun hc19 => ?_)
      · refine w_iloadN X hx (hb hby d2_76) (pc' := 77) rfl rfl ?_
        refine w_aloadN X hx (hb hby d2_77) (pc' := 78) rfl rfl rfl ?_
        refine w_alenI X hx hZ e0 V_ar (n := (p_.length.toInt32)) rfl (hb hby d2_78) (pc' := 79) rfl ?_
        refine w_iadd X hx (hb hby d2_79) (pc' := 80) rfl ?_
        refine w_iload X hx (hb hby d2_80) (pc' := 82) rfl rfl ?_
        refine w_isub X hx (hb hby d2_82) (pc' := 83) rfl ?_
        refine w_aloadN X hx (hb hby d2_83) (pc' := 84) rfl rfl rfl ?_
        refine w_alenI X hx hZ e0 V_br (n := (q_.length.toInt32)) rfl (hb hby d2_84) (pc' := 85) rfl ?_
        refine w_iadd X hx (hb hby d2_85) (pc' := 86) rfl ?_
        refine w_iload X hx (hb hby d2_86) (pc' := 88) rfl rfl ?_
        refine w_isub X hx (hb hby d2_88) (pc' := 89) rfl ?_
        exact w_retI X hx hret hlk (hb hby d2_89) (by decide) (by decide) ⟨by rw [own_val hi hj (by omega)]; first | rw [own_x1 (fun q => hc12 ((own_ilt (by omega) (by omega)).2 q))] | rw [own_x2 (fun q => hc19 ((own_ilt (by omega) (by omega)).2 q))] | rw [own_x3 ((own_ilt (by omega) (by omega)).1 hc12) ((own_ilt (by omega) (by omega)).1 hc19) hc24], N0, e0⟩
      · refine w_iloadN X hx (hb hby d2_22) (pc' := 23) rfl rfl ?_
        refine w_iloadN X hx (hb hby d2_23) (pc' := 24) rfl rfl ?_
        refine w_icmp_gt X hx (hb hby d2_24) (pf := 27) (pt := 76) rfl (by decide) (by decide) (fun hc24 => ?_) (fun hc24 => ?_)
        · refine w_iloadN X hx (hb hby d2_76) (pc' := 77) rfl rfl ?_
          refine w_aloadN X hx (hb hby d2_77) (pc' := 78) rfl rfl rfl ?_
          refine w_alenI X hx hZ e0 V_ar (n := (p_.length.toInt32)) rfl (hb hby d2_78) (pc' := 79) rfl ?_
          refine w_iadd X hx (hb hby d2_79) (pc' := 80) rfl ?_
          refine w_iload X hx (hb hby d2_80) (pc' := 82) rfl rfl ?_
          refine w_isub X hx (hb hby d2_82) (pc' := 83) rfl ?_
          refine w_aloadN X hx (hb hby d2_83) (pc' := 84) rfl rfl rfl ?_
          refine w_alenI X hx hZ e0 V_br (n := (q_.length.toInt32)) rfl (hb hby d2_84) (pc' := 85) rfl ?_
          refine w_iadd X hx (hb hby d2_85) (pc' := 86) rfl ?_
          refine w_iload X hx (hb hby d2_86) (pc' := 88) rfl rfl ?_
          refine w_isub X hx (hb hby d2_88) (pc' := 89) rfl ?_
          exact w_retI X hx hret hlk (hb hby d2_89) (by decide) (by decide) ⟨by rw [own_val hi hj (by omega)]; first | rw [own_x1 (fun q => hc12 ((own_ilt (by omega) (by omega)).2 q))] | rw [own_x2 (fun q => hc19 ((own_ilt (by omega) (by omega)).2 q))] | rw [own_x3 ((own_ilt (by omega) (by omega)).1 hc12) ((own_ilt (by omega) (by omega)).1 hc19) hc24], N0, e0⟩
        · refine w_aloadN X hx (hb hby d2_27) (pc' := 28) rfl rfl rfl ?_
          refine w_iload X hx (hb hby d2_28) (pc' := 30) rfl rfl ?_
          refine w_iaload X hx hZ e0 V_ar (v := (p_.getD i 0)) (own_nneg (by omega)) (by rw [own_nat (by omega)]; exact own_getD ((own_ilt (by omega) (by omega)).1 hc12)) (hb hby d2_30) (pc' := 31) rfl ?_
          refine w_aloadN X hx (hb hby d2_31) (pc' := 32) rfl rfl rfl ?_
          refine w_iload X hx (hb hby d2_32) (pc' := 34) rfl rfl ?_
          refine w_iaload X hx hZ e0 V_br (v := (q_.getD j 0)) (own_nneg (by omega)) (by rw [own_nat (by omega)]; exact own_getD ((own_ilt (by omega) (by omega)).1 hc19)) (hb hby d2_34) (pc' := 35) rfl ?_
          refine w_icmp_ge X hx (hb hby d2_35) (pf := 38) (pt := 47) rfl (by decide) (by decide) (fun hc35 => ?_) (fun hc35 => ?_)
          · refine w_aloadN X hx (hb hby d2_47) (pc' := 48) rfl rfl rfl ?_
            refine w_iload X hx (hb hby d2_48) (pc' := 50) rfl rfl ?_
            refine w_iaload X hx hZ e0 V_br (v := (q_.getD j 0)) (own_nneg (by omega)) (by rw [own_nat (by omega)]; exact own_getD ((own_ilt (by omega) (by omega)).1 hc19)) (hb hby d2_50) (pc' := 51) rfl ?_
            refine w_aloadN X hx (hb hby d2_51) (pc' := 52) rfl rfl rfl ?_
            refine w_iload X hx (hb hby d2_52) (pc' := 54) rfl rfl ?_
            refine w_iaload X hx hZ e0 V_ar (v := (p_.getD i 0)) (own_nneg (by omega)) (by rw [own_nat (by omega)]; exact own_getD ((own_ilt (by omega) (by omega)).1 hc12)) (hb hby d2_54) (pc' := 55) rfl ?_
            refine w_icmp_ge X hx (hb hby d2_55) (pf := 58) (pt := 67) rfl (by decide) (by decide) (fun hc55 => ?_) (fun hc55 => ?_)
            · refine w_iinc (Ls' := #[.val (.ref ar), .val (.ref br), .val (.int x2), .val (.int k.toInt32), .val (.int (i.toInt32 + (1 : Int32))), .val (.int j.toInt32)]) (w := (1 : Int32)) X hx (hb hby d2_67) (pc' := 70) rfl rfl rfl rfl ?_
              refine w_iinc (Ls' := #[.val (.ref ar), .val (.ref br), .val (.int x2), .val (.int k.toInt32), .val (.int (i.toInt32 + (1 : Int32))), .val (.int (j.toInt32 + (1 : Int32)))]) (w := (1 : Int32)) X hx (hb hby d2_70) (pc' := 73) rfl rfl rfl rfl ?_
              refine w_goto X hx (hb hby d2_73) (pc' := 8) (by decide) (by decide) ?_
              have hi' := (own_ilt (by omega) (by omega)).1 hc12
              have hj' := (own_ilt (by omega) (by omega)).1 hc19
              rw [own_t hi' hj' hc24, if_neg hc35, if_neg hc55]
              rw [own_iinc (n := i) (by omega), own_iinc (n := j) (by omega)]
              exact lp2 X hx hZ hw hby hml hown hret hlk e0 N0 V_ar V_br x2 f (k) (i + 1) (j + 1) (by omega) (by omega) (by omega) (by omega)
            · refine w_iinc (Ls' := #[.val (.ref ar), .val (.ref br), .val (.int x2), .val (.int (k.toInt32 + (1 : Int32))), .val (.int i.toInt32), .val (.int j.toInt32)]) (w := (1 : Int32)) X hx (hb hby d2_58) (pc' := 61) rfl rfl rfl rfl ?_
              refine w_iinc (Ls' := #[.val (.ref ar), .val (.ref br), .val (.int x2), .val (.int (k.toInt32 + (1 : Int32))), .val (.int i.toInt32), .val (.int (j.toInt32 + (1 : Int32)))]) (w := (1 : Int32)) X hx (hb hby d2_61) (pc' := 64) rfl rfl rfl rfl ?_
              refine w_goto X hx (hb hby d2_64) (pc' := 8) (by decide) (by decide) ?_
              have hi' := (own_ilt (by omega) (by omega)).1 hc12
              have hj' := (own_ilt (by omega) (by omega)).1 hc19
              rw [own_t hi' hj' hc24, if_neg hc35, if_pos hc55]
              rw [own_iinc (n := k) (by omega), own_iinc (n := j) (by omega)]
              exact lp2 X hx hZ hw hby hml hown hret hlk e0 N0 V_ar V_br x2 f (k + 1) (i) (j + 1) (by omega) (by omega) (by omega) (by omega)
          · refine w_iinc (Ls' := #[.val (.ref ar), .val (.ref br), .val (.int x2), .val (.int (k.toInt32 + (1 : Int32))), .val (.int i.toInt32), .val (.int j.toInt32)]) (w := (1 : Int32)) X hx (hb hby d2_38) (pc' := 41) rfl rfl rfl rfl ?_
            refine w_iinc (Ls' := #[.val (.ref ar), .val (.ref br), .val (.int x2), .val (.int (k.toInt32 + (1 : Int32))), .val (.int (i.toInt32 + (1 : Int32))), .val (.int j.toInt32)]) (w := (1 : Int32)) X hx (hb hby d2_41) (pc' := 44) rfl rfl rfl rfl ?_
            refine w_goto X hx (hb hby d2_44) (pc' := 8) (by decide) (by decide) ?_
            have hi' := (own_ilt (by omega) (by omega)).1 hc12
            have hj' := (own_ilt (by omega) (by omega)).1 hc19
            rw [own_t hi' hj' hc24, if_pos hc35]
            rw [own_iinc (n := k) (by omega), own_iinc (n := i) (by omega)]
            exact lp2 X hx hZ hw hby hml hown hret hlk e0 N0 V_ar V_br x2 f (k + 1) (i + 1) (j) (by omega) (by omega) (by omega) (by omega)
theorem ef_2 (m : MethodId) (ar br : Addr) (x2 : Int32) : entryFrame m #[(.ref ar), (.ref br), (.int x2)] 6 = mkF m 0 #[.val (.ref ar), .val (.ref br), .val (.int x2), .unset, .unset, .unset] [] := by first | (simp [entryFrame, mkF, argsToLocals, Value.category]; done) | rfl
set_option maxRecDepth 65536 in
set_option maxHeartbeats 40000000 in
theorem rm2 (l : Launch) (Z : State) (a0 : Array Value) (hw : ∀ d ∈ tables_1, d.before a0 Z = true) (ar br : Addr) (x2 : Int32) (h0 : Heap) (n0 : Nat) (p_ q_ : List Int32) (V_ar : AI Z h0 ar .int p_) (V_br : AI Z h0 br .int q_) (hs : p_.length + q_.length < 1000) :
    Con l Z (⟨"com/example/facet/facet/regex/Ranges", "differenceSize", "([I[II)I"⟩ : MethodName) prog_49_method_17_code 6 (some .int) ({ frames := 0, cells := 0, slots := 0, locals := 0 } : Room) #[(.ref ar), (.ref br), (.int x2)] h0 (QP (some (.int (own_ds x2 0 p_ q_).toInt32)) h0 n0) := by
  refine Con.of (plainFor_of_name (by first | (simp [plainName, overriddenIn]; done) | decide +kernel)) ?_
  intro p e s m below meth c T X hx hZ hby hml hown hnm hret hlk e0
  rw [ef_2]
  have N0 := Fr.nil n0
  refine w_iconst (v := 0) X hx (hb hby d2_0) (pc' := 1) rfl rfl ?_
  refine w_istoreN (Ls' := #[.val (.ref ar), .val (.ref br), .val (.int x2), .val (.int (0 : Int32)), .unset, .unset]) X hx (hb hby d2_1) (pc' := 2) rfl rfl ?_
  refine w_iconst (v := 0) X hx (hb hby d2_2) (pc' := 3) rfl rfl ?_
  refine w_istore (Ls' := #[.val (.ref ar), .val (.ref br), .val (.int x2), .val (.int (0 : Int32)), .val (.int (0 : Int32)), .unset]) X hx (hb hby d2_3) (pc' := 5) rfl rfl ?_
  refine w_iconst (v := 0) X hx (hb hby d2_5) (pc' := 6) rfl rfl ?_
  refine w_istore (Ls' := #[.val (.ref ar), .val (.ref br), .val (.int x2), .val (.int (0 : Int32)), .val (.int (0 : Int32)), .val (.int (0 : Int32))]) X hx (hb hby d2_6) (pc' := 8) rfl rfl ?_
  have q := lp2 X hx hZ hw hby hml hown hret hlk e0 N0 V_ar V_br x2 1001 0 0 0 (by omega) (by omega) (by omega) (by omega)
  rw [List.drop_zero, List.drop_zero] at q
  exact q
theorem own_small (n a b c n' a' b' c' : Int32) : (own_edges n a b c).length + (own_edges n' a' b' c').length < 1000 := by
  have h : ∀ n a b c : Int32, (own_edges n a b c).length ≤ 3 := fun n a b c => by
    rw [own_edges]; repeat' split
    all_goals simp
  have h1 := h n a b c
  have h2 := h n' a' b' c'
  omega
theorem own_ds_le' (m : Int32) : ∀ (n c : Nat) (a b : List Int32), a.length + b.length < n → own_ds m c a b ≤ c + a.length + b.length
  | 0, _, _, _, h => by omega
  | n + 1, c, a, b, h => by
    match a, b with
    | [], b => rw [own_ds_l]; omega
    | a, [] => rw [own_ds_r]; omega
    | x :: xs, y :: ys =>
      simp only [List.length_cons] at h
      rw [own_ds]
      have i1 := own_ds_le' m n (c + 1) xs (y :: ys) (by simp only [List.length_cons]; omega)
      have i2 := own_ds_le' m n (c + 1) (x :: xs) ys (by simp only [List.length_cons]; omega)
      have i3 := own_ds_le' m n c xs ys (by omega)
      simp only [List.length_cons] at i1 i2 i3 ⊢
      repeat' split
      all_goals omega
theorem own_ds_le (m : Int32) (c : Nat) (a b : List Int32) (h : c + a.length + b.length < 2147483648) : own_ds m c a b < 2147483648 := by
  have := own_ds_le' m (a.length + b.length + 1) c a b (by omega)
  omega
def own_sd : List Int32 → List Int32 → Nat
  | x :: xs, y :: ys => if x < y then 1 + own_sd xs (y :: ys) else (if y < x then 1 + own_sd (x :: xs) ys else own_sd xs ys)
  | a, b => a.length + b.length
termination_by a b => a.length + b.length
theorem own_sd_l (b : List Int32) : own_sd [] b = b.length := by
  rw [own_sd]
  · simp
  · intro x xs y ys h; cases h
theorem own_sd_r (a : List Int32) : own_sd a [] = a.length := by
  rw [own_sd]
  · simp
  · intro x xs y ys h h2; cases h2
theorem own_ds_sd (m : Int32) : ∀ (n c : Nat) (a b : List Int32), a.length + b.length < n → c + n < 2147483648 → ((c + own_sd a b : Int) ≤ m.toInt → own_ds m c a b = c + own_sd a b) ∧ (m.toInt < (c + own_sd a b : Int) → m.toInt < (own_ds m c a b : Int))
  | 0, _, _, _, h, _ => by omega
  | n + 1, c, a, b, h, hc => by
    match a, b with
    | [], b => rw [own_sd_l, own_ds_l]; omega
    | a, [] => rw [own_sd_r, own_ds_r]; omega
    | x :: xs, y :: ys =>
      simp only [List.length_cons] at h
      rw [own_ds, own_sd]
      have hmi : (m < c.toInt32) ↔ m.toInt < (c : Int) := by rw [Int32.lt_iff_toInt_lt, own_i (by omega)]
      by_cases hm : m < c.toInt32
      · rw [if_pos hm]
        rw [hmi] at hm
        refine ⟨fun q => ?_, fun _ => by omega⟩
        exfalso; omega
      · rw [if_neg hm]
        rw [hmi] at hm
        by_cases h1 : x < y
        · rw [if_pos h1, if_pos h1]
          have ih := own_ds_sd m n (c + 1) xs (y :: ys) (by simp only [List.length_cons]; omega) (by omega)
          omega
        · rw [if_neg h1, if_neg h1]
          by_cases h2 : y < x
          · rw [if_pos h2, if_pos h2]
            have ih := own_ds_sd m n (c + 1) (x :: xs) ys (by simp only [List.length_cons]; omega) (by omega)
            omega
          · rw [if_neg h2, if_neg h2]
            have ih := own_ds_sd m n c xs ys (by omega) (by omega)
            omega
def own_up (a : List Int32) : Prop := a.Pairwise (fun x y => x.toInt < y.toInt)
theorem own_nin {x : Int32} {b : List Int32} (h : ∀ y ∈ b, x.toInt < y.toInt) : x ∉ b := fun q => absurd (h x q) (by omega)
theorem own_sd_eq : ∀ (n : Nat) (a b : List Int32), a.length + b.length < n → own_up a → own_up b → own_sd a b + 2 * (a.filter (fun x => decide (x ∈ b))).length = a.length + b.length
  | 0, _, _, h, _, _ => by omega
  | n + 1, a, b, h, ha, hb => by
    match a, b with
    | [], b => rw [own_sd_l]; simp
    | a, [] =>
      rw [own_sd_r, show a.filter (fun x => decide (x ∈ ([] : List Int32))) = [] from List.filter_eq_nil_iff.mpr (fun x _ => by simp)]
      simp
    | x :: xs, y :: ys =>
      simp only [List.length_cons] at h
      have ha' := List.pairwise_cons.mp ha
      have hb' := List.pairwise_cons.mp hb
      rw [own_sd]
      by_cases h1 : x < y
      · rw [if_pos h1]
        have ih := own_sd_eq n xs (y :: ys) (by simp only [List.length_cons]; omega) ha'.2 hb
        have hn : x ∉ (y :: ys) := own_nin (fun z hz => by
          rw [Int32.lt_iff_toInt_lt] at h1
          rcases List.mem_cons.mp hz with rfl | hz
          · exact h1
          · have := hb'.1 z hz; omega)
        rw [List.filter_cons_of_neg (by simpa using hn)]
        simp only [List.length_cons] at ih ⊢
        omega
      · rw [if_neg h1]
        by_cases h2 : y < x
        · rw [if_pos h2]
          have ih := own_sd_eq n (x :: xs) ys (by simp only [List.length_cons]; omega) ha hb'.2
          have hn : y ∉ (x :: xs) := own_nin (fun z hz => by
            rw [Int32.lt_iff_toInt_lt] at h2
            rcases List.mem_cons.mp hz with rfl | hz
            · exact h2
            · have := ha'.1 z hz; omega)
          have he : (x :: xs).filter (fun z => decide (z ∈ (y :: ys))) = (x :: xs).filter (fun z => decide (z ∈ ys)) := by
            apply List.filter_congr
            intro z hz
            have : z ≠ y := fun q => hn (q ▸ hz)
            simp [this]
          rw [he]
          simp only [List.length_cons] at ih ⊢
          omega
        · rw [if_neg h2]
          have hxy : x = y := by
            rw [Int32.lt_iff_toInt_lt] at h1 h2
            exact own_toInt (by omega)
          subst hxy
          have ih := own_sd_eq n xs ys (by omega) ha'.2 hb'.2
          have hn : x ∉ xs := own_nin ha'.1
          have he : xs.filter (fun z => decide (z ∈ (x :: ys))) = xs.filter (fun z => decide (z ∈ ys)) := by
            apply List.filter_congr
            intro z hz
            have : z ≠ x := fun q => hn (q ▸ hz)
            simp [this]
          rw [List.filter_cons_of_pos (by simp), he]
          simp only [List.length_cons] at ih ⊢
          omega
theorem own_hit {v n b0 b1 b2 : Int32} (hn : n = 0 ∨ n = 1 ∨ n = 2 ∨ n = 3) : K3_0 v n b0 b1 b2 = if v ∈ own_edges n b0 b1 b2 then 1 else 0 := by
  rcases hn with rfl | rfl | rfl | rfl
  · simp +decide [K3_0, K3_9, K3_19, K3_35, own_edges]
  · by_cases c0 : v = b0 <;> simp +decide [K3_0, K3_9, K3_19, K3_35, own_edges, c0]
  · by_cases c0 : v = b0 <;> by_cases c1 : v = b1 <;> simp +decide [K3_0, K3_9, K3_19, K3_35, own_edges, c0, c1]
  · by_cases c0 : v = b0 <;> by_cases c1 : v = b1 <;> by_cases c2 : v = b2 <;> simp +decide [K3_0, K3_9, K3_19, K3_35, own_edges, c0, c1, c2]
theorem own_step {x p w : Int32} (hp : 0 ≤ p.toInt ∧ p.toInt ≤ 2000000) (h : w = p + 1 + (x &&& 3)) : p.toInt < w.toInt ∧ w.toInt ≤ p.toInt + 4 := by
  have h1 := own_m x 3 (k := 2) (by decide) (by decide)
  have e1 : (p + 1).toInt = p.toInt + 1 := by rw [Jvm.Kit.i32_add (by rw [own_one]; omega) (by rw [own_one]; omega), own_one]
  rw [h, Jvm.Kit.i32_add (by omega) (by omega), e1]
  omega
theorem own_first {o x p f : Int32} (hf : f = (o &&& 2147483647) % 1114096) (h : p = f + (x &&& 3)) : 0 ≤ p.toInt ∧ p.toInt ≤ 1500000 := by
  have h0 := (own_m o 2147483647 (k := 31) (by decide) (by decide)).1
  have e5 : (1114096 : Int32).toInt = 1114096 := by decide
  have e : f.toInt = (o &&& 2147483647).toInt % 1114096 := by rw [hf, Jvm.Kit.i32_rem_nonneg h0, e5]
  have h1 := own_m x 3 (k := 2) (by decide) (by decide)
  rw [h, Jvm.Kit.i32_add (by omega) (by omega)]
  omega
theorem own_sorted {n a b c : Int32} (h1 : a.toInt < b.toInt) (h2 : b.toInt < c.toInt) : own_up (own_edges n a b c) := by
  rw [own_edges, own_up]
  have : a.toInt < c.toInt := by omega
  repeat' split
  all_goals simp [h1, h2, this]
theorem own_elen {n a b c : Int32} (hn : n = 0 ∨ n = 1 ∨ n = 2 ∨ n = 3) : ((own_edges n a b c).length : Int) = n.toInt := by
  rcases hn with rfl | rfl | rfl | rfl <;> simp +decide [own_edges]
theorem own_com {n a b c : Int32} {B : List Int32} {v0 v1 v2 : Int32} (hn : n = 0 ∨ n = 1 ∨ n = 2 ∨ n = 3) (h0 : v0 = (if 0 < n then (if a ∈ B then 1 else 0) else 0)) (h1 : v1 = (if 1 < n then (if b ∈ B then 1 else 0) else 0)) (h2 : v2 = (if 2 < n then (if c ∈ B then 1 else 0) else 0)) :
    (v0 + v1 + v2).toInt = (((own_edges n a b c).filter (fun x => decide (x ∈ B))).length : Int) := by
  subst h0 h1 h2
  by_cases c0 : a ∈ B <;> by_cases c1 : b ∈ B <;> by_cases c2 : c ∈ B <;> rcases hn with rfl | rfl | rfl | rfl <;> simp +decide [own_edges, List.filter_cons, c0, c1, c2]
theorem own_law {o xa xa1 xa2 xa3 xb xb1 xb2 xb3 f la pa0 pa1 pa2 lb pb0 pb1 pb2 v0 v1 v2 com dd rr m : Int32} (hf : f = (o &&& 2147483647) % 1114096) (hla : la = xa &&& 3) (hpa0 : pa0 = f + (xa1 &&& 3)) (hpa1 : pa1 = pa0 + 1 + (xa2 &&& 3)) (hpa2 : pa2 = pa1 + 1 + (xa3 &&& 3)) (hlb : lb = xb &&& 3) (hpb0 : pb0 = f + (xb1 &&& 3)) (hpb1 : pb1 = pb0 + 1 + (xb2 &&& 3)) (hpb2 : pb2 = pb1 + 1 + (xb3 &&& 3))
    (h0 : v0 = (if 0 < la then (K3_0 pa0 lb pb0 pb1 pb2) else 0)) (h1 : v1 = (if 1 < la then (K3_0 pa1 lb pb0 pb1 pb2) else 0)) (h2 : v2 = (if 2 < la then (K3_0 pa2 lb pb0 pb1 pb2) else 0)) (hcom : com = v0 + v1 + v2) (hdd : dd = la + lb - 2 * com) (hrr : rr = (own_ds m 0 (own_edges la pa0 pa1 pa2) (own_edges lb pb0 pb1 pb2)).toInt32) : (¬ m < dd → rr = dd) ∧ (m < dd → m < rr) := by
  have na : la = 0 ∨ la = 1 ∨ la = 2 ∨ la = 3 := hla ▸ own_and3 xa
  have nb : lb = 0 ∨ lb = 1 ∨ lb = 2 ∨ lb = 3 := hlb ▸ own_and3 xb
  have fa := own_first hf hpa0
  have fb := own_first hf hpb0
  have sa1 := own_step (by omega) hpa1
  have sa2 := own_step (by omega) hpa2
  have sb1 := own_step (by omega) hpb1
  have sb2 := own_step (by omega) hpb2
  have ua : own_up (own_edges la pa0 pa1 pa2) := own_sorted (by omega) (by omega)
  have ub : own_up (own_edges lb pb0 pb1 pb2) := own_sorted (by omega) (by omega)
  have ea := own_elen (a := pa0) (b := pa1) (c := pa2) na
  have eb := own_elen (a := pb0) (b := pb1) (c := pb2) nb
  have la3 := own_m xa 3 (k := 2) (by decide) (by decide)
  have lb3 := own_m xb 3 (k := 2) (by decide) (by decide)
  rw [← hla] at la3
  rw [← hlb] at lb3
  rw [own_hit nb] at h0 h1 h2
  have ec := own_com na h0 h1 h2
  rw [← hcom] at ec
  have es := own_sd_eq 1000 _ _ (own_small _ _ _ _ _ _ _ _) ua ub
  have ed := own_ds_sd m 1000 0 _ _ (own_small la pa0 pa1 pa2 lb pb0 pb1 pb2) (by omega)
  have e2 : (2 : Int32).toInt = 2 := by decide
  have em : (2 * com).toInt = 2 * com.toInt := by rw [Jvm.Kit.i32_mul (by rw [e2]; omega) (by rw [e2]; omega), e2]
  have eab : (la + lb).toInt = la.toInt + lb.toInt := Jvm.Kit.i32_add (by omega) (by omega)
  have edd : dd.toInt = (own_sd (own_edges la pa0 pa1 pa2) (own_edges lb pb0 pb1 pb2) : Int) := by
    rw [hdd, Jvm.Kit.i32_sub (by omega) (by omega), em, eab]
    omega
  rw [Int32.lt_iff_toInt_lt, Int32.lt_iff_toInt_lt, edd]
  have hle : own_ds m 0 (own_edges la pa0 pa1 pa2) (own_edges lb pb0 pb1 pb2) < 2147483648 := own_ds_le m 0 _ _ (by omega)
  refine ⟨fun q => ?_, fun q => ?_⟩
  · apply own_toInt
    rw [hrr, own_i hle, edd, ed.1 (by omega)]
    omega
  · rw [hrr, own_i hle]
    have := ed.2 (by omega)
    omega
theorem ef_0 (m : MethodId) (x0 : Int32) (x1 : Int32) (x2 : Int32) (x3 : Int32) : entryFrame m #[(.int x0), (.int x1), (.int x2), (.int x3)] maxLocals = mkF m 0 #[.val (.int x0), .val (.int x1), .val (.int x2), .val (.int x3), .unset, .unset, .unset, .unset, .unset, .unset, .unset, .unset, .unset, .unset, .unset, .unset, .unset, .unset] [] := by first | (simp [entryFrame, mkF, argsToLocals, Value.category, maxLocals]; done) | rfl
set_option maxRecDepth 65536 in
set_option maxHeartbeats 40000000 in
theorem rm0 (l : Launch) (Z : State) (a0 : Array Value) (hw : ∀ d ∈ tables_1, d.before a0 Z = true) (x0 : Int32) (x1 : Int32) (x2 : Int32) (x3 : Int32) (h0 : Heap) (n0 : Nat) (Z0 : n0 ≤ h0.size) :
    Con l Z x code maxLocals ret room_1 #[(.int x0), (.int x1), (.int x2), (.int x3)] h0 (QL (some (.int 1)) n0) := by
  refine Con.of (plainFor_of_name (by first | (simp [plainName, overriddenIn]; done) | decide +kernel)) ?_
  intro p e s m below meth c T X hx hZ hby hml hown hnm hret hlk e0
  rw [ef_0]
  have N0 := Fr.nil n0
  show Go p e below s room_1.cells room_1.slots (QL (some (.int 1)) n0) T (mkF m 0 #[.val (.int x0), .val (.int x1), .val (.int x2), .val (.int x3), .unset, .unset, .unset, .unset, .unset, .unset, .unset, .unset, .unset, .unset, .unset, .unset, .unset, .unset] [])
  refine w_iloadN X hx (hb hby at_0) (pc' := 1) rfl rfl ?_
  refine w_ldc X hx hZ hown (hw _ (List.mem_of_getElem? (i := 0) rfl)) (hb hby at_1) (pc' := 3) rfl ?_
  refine w_iand X hx (hb hby at_3) (pc' := 4) rfl ?_
  refine w_ldc X hx hZ hown (hw _ (List.mem_of_getElem? (i := 1) rfl)) (hb hby at_4) (pc' := 6) rfl ?_
  refine w_irem X hx (hb hby at_6) (pc' := 7) rfl (by decide) ?_
  refine w_istore (Ls' := #[.val (.int x0), .val (.int x1), .val (.int x2), .val (.int x3), .val (.int ((x2 &&& (2147483647 : Int32)) % (1114096 : Int32))), .unset, .unset, .unset, .unset, .unset, .unset, .unset, .unset, .unset, .unset, .unset, .unset, .unset]) X hx (hb hby at_7) (pc' := 9) rfl rfl ?_
  obtain ⟨ofs, hofs⟩ : ∃ z : Int32, z = ((x2 &&& (2147483647 : Int32)) % (1114096 : Int32)) := ⟨_, rfl⟩
  rw [← hofs]
  refine w_iloadN X hx (hb hby at_9) (pc' := 10) rfl rfl ?_
  refine w_iconst (v := 3) X hx (hb hby at_10) (pc' := 11) rfl rfl ?_
  refine w_iand X hx (hb hby at_11) (pc' := 12) rfl ?_
  refine w_istore (Ls' := #[.val (.int x0), .val (.int x1), .val (.int x2), .val (.int x3), .val (.int ofs), .val (.int (x0 &&& (3 : Int32))), .unset, .unset, .unset, .unset, .unset, .unset, .unset, .unset, .unset, .unset, .unset, .unset]) X hx (hb hby at_12) (pc' := 14) rfl rfl ?_
  obtain ⟨la_, hla_⟩ : ∃ z : Int32, z = (x0 &&& (3 : Int32)) := ⟨_, rfl⟩
  rw [← hla_]
  refine w_iload X hx (hb hby at_14) (pc' := 16) rfl rfl ?_
  refine w_iloadN X hx (hb hby at_16) (pc' := 17) rfl rfl ?_
  refine w_iconst (v := 2) X hx (hb hby at_17) (pc' := 18) rfl rfl ?_
  refine w_iushr X hx (hb hby at_18) (pc' := 19) rfl ?_
  refine w_iconst (v := 3) X hx (hb hby at_19) (pc' := 20) rfl rfl ?_
  refine w_iand X hx (hb hby at_20) (pc' := 21) rfl ?_
  refine w_iadd X hx (hb hby at_21) (pc' := 22) rfl ?_
  refine w_istore (Ls' := #[.val (.int x0), .val (.int x1), .val (.int x2), .val (.int x3), .val (.int ofs), .val (.int la_), .val (.int (ofs + ((jushr x0 (2 : Int32)) &&& (3 : Int32)))), .unset, .unset, .unset, .unset, .unset, .unset, .unset, .unset, .unset, .unset, .unset]) X hx (hb hby at_22) (pc' := 24) rfl rfl ?_
  obtain ⟨pa0, hpa0⟩ : ∃ z : Int32, z = (ofs + ((jushr x0 (2 : Int32)) &&& (3 : Int32))) := ⟨_, rfl⟩
  rw [← hpa0]
  refine w_iload X hx (hb hby at_24) (pc' := 26) rfl rfl ?_
  refine w_iconst (v := 1) X hx (hb hby at_26) (pc' := 27) rfl rfl ?_
  refine w_iadd X hx (hb hby at_27) (pc' := 28) rfl ?_
  refine w_iloadN X hx (hb hby at_28) (pc' := 29) rfl rfl ?_
  refine w_iconst (v := 4) X hx (hb hby at_29) (pc' := 30) rfl rfl ?_
  refine w_iushr X hx (hb hby at_30) (pc' := 31) rfl ?_
  refine w_iconst (v := 3) X hx (hb hby at_31) (pc' := 32) rfl rfl ?_
  refine w_iand X hx (hb hby at_32) (pc' := 33) rfl ?_
  refine w_iadd X hx (hb hby at_33) (pc' := 34) rfl ?_
  refine w_istore (Ls' := #[.val (.int x0), .val (.int x1), .val (.int x2), .val (.int x3), .val (.int ofs), .val (.int la_), .val (.int pa0), .val (.int ((pa0 + (1 : Int32)) + ((jushr x0 (4 : Int32)) &&& (3 : Int32)))), .unset, .unset, .unset, .unset, .unset, .unset, .unset, .unset, .unset, .unset]) X hx (hb hby at_34) (pc' := 36) rfl rfl ?_
  obtain ⟨pa1, hpa1⟩ : ∃ z : Int32, z = ((pa0 + (1 : Int32)) + ((jushr x0 (4 : Int32)) &&& (3 : Int32))) := ⟨_, rfl⟩
  rw [← hpa1]
  refine w_iload X hx (hb hby at_36) (pc' := 38) rfl rfl ?_
  refine w_iconst (v := 1) X hx (hb hby at_38) (pc' := 39) rfl rfl ?_
  refine w_iadd X hx (hb hby at_39) (pc' := 40) rfl ?_
  refine w_iloadN X hx (hb hby at_40) (pc' := 41) rfl rfl ?_
  refine w_bipush (v := 6) X hx (hb hby at_41) (pc' := 43) rfl rfl ?_
  refine w_iushr X hx (hb hby at_43) (pc' := 44) rfl ?_
  refine w_iconst (v := 3) X hx (hb hby at_44) (pc' := 45) rfl rfl ?_
  refine w_iand X hx (hb hby at_45) (pc' := 46) rfl ?_
  refine w_iadd X hx (hb hby at_46) (pc' := 47) rfl ?_
  refine w_istore (Ls' := #[.val (.int x0), .val (.int x1), .val (.int x2), .val (.int x3), .val (.int ofs), .val (.int la_), .val (.int pa0), .val (.int pa1), .val (.int ((pa1 + (1 : Int32)) + ((jushr x0 (6 : Int32)) &&& (3 : Int32)))), .unset, .unset, .unset, .unset, .unset, .unset, .unset, .unset, .unset]) X hx (hb hby at_47) (pc' := 49) rfl rfl ?_
  obtain ⟨pa2, hpa2⟩ : ∃ z : Int32, z = ((pa1 + (1 : Int32)) + ((jushr x0 (6 : Int32)) &&& (3 : Int32))) := ⟨_, rfl⟩
  rw [← hpa2]
  refine w_iloadN X hx (hb hby at_49) (pc' := 50) rfl rfl ?_
  refine w_iconst (v := 3) X hx (hb hby at_50) (pc' := 51) rfl rfl ?_
  refine w_iand X hx (hb hby at_51) (pc' := 52) rfl ?_
  refine w_istore (Ls' := #[.val (.int x0), .val (.int x1), .val (.int x2), .val (.int x3), .val (.int ofs), .val (.int la_), .val (.int pa0), .val (.int pa1), .val (.int pa2), .val (.int (x1 &&& (3 : Int32))), .unset, .unset, .unset, .unset, .unset, .unset, .unset, .unset]) X hx (hb hby at_52) (pc' := 54) rfl rfl ?_
  obtain ⟨lb_, hlb_⟩ : ∃ z : Int32, z = (x1 &&& (3 : Int32)) := ⟨_, rfl⟩
  rw [← hlb_]
  refine w_iload X hx (hb hby at_54) (pc' := 56) rfl rfl ?_
  refine w_iloadN X hx (hb hby at_56) (pc' := 57) rfl rfl ?_
  refine w_iconst (v := 2) X hx (hb hby at_57) (pc' := 58) rfl rfl ?_
  refine w_iushr X hx (hb hby at_58) (pc' := 59) rfl ?_
  refine w_iconst (v := 3) X hx (hb hby at_59) (pc' := 60) rfl rfl ?_
  refine w_iand X hx (hb hby at_60) (pc' := 61) rfl ?_
  refine w_iadd X hx (hb hby at_61) (pc' := 62) rfl ?_
  refine w_istore (Ls' := #[.val (.int x0), .val (.int x1), .val (.int x2), .val (.int x3), .val (.int ofs), .val (.int la_), .val (.int pa0), .val (.int pa1), .val (.int pa2), .val (.int lb_), .val (.int (ofs + ((jushr x1 (2 : Int32)) &&& (3 : Int32)))), .unset, .unset, .unset, .unset, .unset, .unset, .unset]) X hx (hb hby at_62) (pc' := 64) rfl rfl ?_
  obtain ⟨pb0, hpb0⟩ : ∃ z : Int32, z = (ofs + ((jushr x1 (2 : Int32)) &&& (3 : Int32))) := ⟨_, rfl⟩
  rw [← hpb0]
  refine w_iload X hx (hb hby at_64) (pc' := 66) rfl rfl ?_
  refine w_iconst (v := 1) X hx (hb hby at_66) (pc' := 67) rfl rfl ?_
  refine w_iadd X hx (hb hby at_67) (pc' := 68) rfl ?_
  refine w_iloadN X hx (hb hby at_68) (pc' := 69) rfl rfl ?_
  refine w_iconst (v := 4) X hx (hb hby at_69) (pc' := 70) rfl rfl ?_
  refine w_iushr X hx (hb hby at_70) (pc' := 71) rfl ?_
  refine w_iconst (v := 3) X hx (hb hby at_71) (pc' := 72) rfl rfl ?_
  refine w_iand X hx (hb hby at_72) (pc' := 73) rfl ?_
  refine w_iadd X hx (hb hby at_73) (pc' := 74) rfl ?_
  refine w_istore (Ls' := #[.val (.int x0), .val (.int x1), .val (.int x2), .val (.int x3), .val (.int ofs), .val (.int la_), .val (.int pa0), .val (.int pa1), .val (.int pa2), .val (.int lb_), .val (.int pb0), .val (.int ((pb0 + (1 : Int32)) + ((jushr x1 (4 : Int32)) &&& (3 : Int32)))), .unset, .unset, .unset, .unset, .unset, .unset]) X hx (hb hby at_74) (pc' := 76) rfl rfl ?_
  obtain ⟨pb1, hpb1⟩ : ∃ z : Int32, z = ((pb0 + (1 : Int32)) + ((jushr x1 (4 : Int32)) &&& (3 : Int32))) := ⟨_, rfl⟩
  rw [← hpb1]
  refine w_iload X hx (hb hby at_76) (pc' := 78) rfl rfl ?_
  refine w_iconst (v := 1) X hx (hb hby at_78) (pc' := 79) rfl rfl ?_
  refine w_iadd X hx (hb hby at_79) (pc' := 80) rfl ?_
  refine w_iloadN X hx (hb hby at_80) (pc' := 81) rfl rfl ?_
  refine w_bipush (v := 6) X hx (hb hby at_81) (pc' := 83) rfl rfl ?_
  refine w_iushr X hx (hb hby at_83) (pc' := 84) rfl ?_
  refine w_iconst (v := 3) X hx (hb hby at_84) (pc' := 85) rfl rfl ?_
  refine w_iand X hx (hb hby at_85) (pc' := 86) rfl ?_
  refine w_iadd X hx (hb hby at_86) (pc' := 87) rfl ?_
  refine w_istore (Ls' := #[.val (.int x0), .val (.int x1), .val (.int x2), .val (.int x3), .val (.int ofs), .val (.int la_), .val (.int pa0), .val (.int pa1), .val (.int pa2), .val (.int lb_), .val (.int pb0), .val (.int pb1), .val (.int ((pb1 + (1 : Int32)) + ((jushr x1 (6 : Int32)) &&& (3 : Int32)))), .unset, .unset, .unset, .unset, .unset]) X hx (hb hby at_87) (pc' := 89) rfl rfl ?_
  obtain ⟨pb2, hpb2⟩ : ∃ z : Int32, z = ((pb1 + (1 : Int32)) + ((jushr x1 (6 : Int32)) &&& (3 : Int32))) := ⟨_, rfl⟩
  rw [← hpb2]
  refine w_iload X hx (hb hby at_89) (pc' := 91) rfl rfl ?_
  refine w_iload X hx (hb hby at_91) (pc' := 93) rfl rfl ?_
  refine w_iload X hx (hb hby at_93) (pc' := 95) rfl rfl ?_
  refine w_iload X hx (hb hby at_95) (pc' := 97) rfl rfl ?_
  refine w_callS (argsL := [(.int la_), (.int pa0), (.int pa1), (.int pa2)]) (rest := []) X hx hZ hown e0 (rm1 l Z a0 hw la_ pa0 pa1 pa2 h0 n0 Z0) (hw _ (List.mem_of_getElem? (i := 2) rfl)) (hw _ (List.mem_of_getElem? (i := 3) rfl)) (hw _ (List.mem_of_getElem? (i := 4) rfl)) (hw _ (List.mem_of_getElem? (i := 5) rfl)) (by decide) (by decide) (W := 0) (by decide) (by decide) (by decide) (by rw [hml]; rfl) (lenOf pd_0 rfl) (Nat.le_refl _) rfl (hb hby at_97) (pc' := 100) rfl (fun T11 L11 v11 X11 hQ11 => ?_)
  obtain ⟨b11, rfl, N11q, K11, sz11, V11⟩ := hQ11
  have zn11 : n0 ≤ T11.heap.size := Nat.le_trans Z0 K11.1
  have g_b11 : n0 ≤ b11 := Nat.le_trans Z0 sz11
  have N11 := Fr.app N0 N11q
  have X11 : Stand p l e room_1 s m _ below meth c T11 _ 1 3 := X11
  show Go p e below s room_1.cells room_1.slots (QL (some (.int 1)) n0) T11 (mkF m 100 #[.val (.int x0), .val (.int x1), .val (.int x2), .val (.int x3), .val (.int ofs), .val (.int la_), .val (.int pa0), .val (.int pa1), .val (.int pa2), .val (.int lb_), .val (.int pb0), .val (.int pb1), .val (.int pb2), .unset, .unset, .unset, .unset, .unset] [(.ref b11)])
  refine w_astore (Ls' := #[.val (.int x0), .val (.int x1), .val (.int x2), .val (.int x3), .val (.int ofs), .val (.int la_), .val (.int pa0), .val (.int pa1), .val (.int pa2), .val (.int lb_), .val (.int pb0), .val (.int pb1), .val (.int pb2), .val (.ref b11), .unset, .unset, .unset, .unset]) X11 hx (hb hby at_100) (pc' := 102) rfl rfl rfl ?_
  refine w_iload X11 hx (hb hby at_102) (pc' := 104) rfl rfl ?_
  refine w_iload X11 hx (hb hby at_104) (pc' := 106) rfl rfl ?_
  refine w_iload X11 hx (hb hby at_106) (pc' := 108) rfl rfl ?_
  refine w_iload X11 hx (hb hby at_108) (pc' := 110) rfl rfl ?_
  refine w_callS (argsL := [(.int lb_), (.int pb0), (.int pb1), (.int pb2)]) (rest := []) X11 hx hZ hown rfl (rm1 l Z a0 hw lb_ pb0 pb1 pb2 T11.heap n0 zn11) (hw _ (List.mem_of_getElem? (i := 2) rfl)) (hw _ (List.mem_of_getElem? (i := 3) rfl)) (hw _ (List.mem_of_getElem? (i := 4) rfl)) (hw _ (List.mem_of_getElem? (i := 5) rfl)) (by decide) (by decide) (W := 0) (by decide) (by decide) (by decide) (by rw [hml]; rfl) (lenOf pd_0 rfl) (Nat.le_refl _) rfl (hb hby at_110) (pc' := 113) rfl (fun T12 L12 v12 X12 hQ12 => ?_)
  obtain ⟨b12, rfl, N12q, K12, sz12, V12⟩ := hQ12
  have zn12 : n0 ≤ T12.heap.size := Nat.le_trans zn11 K12.1
  have g_b12 : n0 ≤ b12 := Nat.le_trans zn11 sz12
  have ne_b11_b12 : b11 ≠ b12 := Nat.ne_of_lt (Nat.lt_of_lt_of_le V11.lt sz12)
  have N12 := Fr.app N11 N12q
  have X12 : Stand p l e room_1 s m _ below meth c T12 _ 2 6 := X12
  show Go p e below s room_1.cells room_1.slots (QL (some (.int 1)) n0) T12 (mkF m 113 #[.val (.int x0), .val (.int x1), .val (.int x2), .val (.int x3), .val (.int ofs), .val (.int la_), .val (.int pa0), .val (.int pa1), .val (.int pa2), .val (.int lb_), .val (.int pb0), .val (.int pb1), .val (.int pb2), .val (.ref b11), .unset, .unset, .unset, .unset] [(.ref b12)])
  refine w_astore (Ls' := #[.val (.int x0), .val (.int x1), .val (.int x2), .val (.int x3), .val (.int ofs), .val (.int la_), .val (.int pa0), .val (.int pa1), .val (.int pa2), .val (.int lb_), .val (.int pb0), .val (.int pb1), .val (.int pb2), .val (.ref b11), .val (.ref b12), .unset, .unset, .unset]) X12 hx (hb hby at_113) (pc' := 115) rfl rfl rfl ?_
  refine w_iload X12 hx (hb hby at_115) (pc' := 117) rfl rfl ?_
  have J137_15 : ∀ (T16 : State) (L16 : List Loc) (X16 : Stand p l e room_1 s m #[(.int x0), (.int x1), (.int x2), (.int x3)] below meth c T16 L16 2 6) (e16 : T16.heap = T12.heap) (N16 : Fr n0 L16) (v14 : Int32), v14 = (if (0 : Int32) < la_ then (K3_0 pa0 lb_ pb0 pb1 pb2) else (0 : Int32)) → Go p e below s room_1.cells room_1.slots (QL (some (.int 1)) n0) T16 (mkF m 137 #[.val (.int x0), .val (.int x1), .val (.int x2), .val (.int x3), .val (.int ofs), .val (.int la_), .val (.int pa0), .val (.int pa1), .val (.int pa2), .val (.int lb_), .val (.int pb0), .val (.int pb1), .val (.int pb2), .val (.ref b11), .val (.ref b12), .unset, .unset, .unset] [(.int v14)]) := by
    intro T16 L16 X16 e16 N16 v14 hv14
    refine w_iload X16 hx (hb hby at_137) (pc' := 139) rfl rfl ?_
    refine w_iconst (v := 1) X16 hx (hb hby at_139) (pc' := 140) rfl rfl ?_
    have J160_19 : ∀ (T20 : State) (L20 : List Loc) (X20 : Stand p l e room_1 s m #[(.int x0), (.int x1), (.int x2), (.int x3)] below meth c T20 L20 2 6) (e20 : T20.heap = T12.heap) (N20 : Fr n0 L20) (v18 : Int32), v18 = (if (1 : Int32) < la_ then (K3_0 pa1 lb_ pb0 pb1 pb2) else (0 : Int32)) → Go p e below s room_1.cells room_1.slots (QL (some (.int 1)) n0) T20 (mkF m 160 #[.val (.int x0), .val (.int x1), .val (.int x2), .val (.int x3), .val (.int ofs), .val (.int la_), .val (.int pa0), .val (.int pa1), .val (.int pa2), .val (.int lb_), .val (.int pb0), .val (.int pb1), .val (.int pb2), .val (.ref b11), .val (.ref b12), .unset, .unset, .unset] [(.int v18), (.int v14)]) := by
      intro T20 L20 X20 e20 N20 v18 hv18
      refine w_iadd X20 hx (hb hby at_160) (pc' := 161) rfl ?_
      refine w_iload X20 hx (hb hby at_161) (pc' := 163) rfl rfl ?_
      refine w_iconst (v := 2) X20 hx (hb hby at_163) (pc' := 164) rfl rfl ?_
      have J184_23 : ∀ (T24 : State) (L24 : List Loc) (X24 : Stand p l e room_1 s m #[(.int x0), (.int x1), (.int x2), (.int x3)] below meth c T24 L24 2 6) (e24 : T24.heap = T12.heap) (N24 : Fr n0 L24) (v22 : Int32), v22 = (if (2 : Int32) < la_ then (K3_0 pa2 lb_ pb0 pb1 pb2) else (0 : Int32)) → Go p e below s room_1.cells room_1.slots (QL (some (.int 1)) n0) T24 (mkF m 184 #[.val (.int x0), .val (.int x1), .val (.int x2), .val (.int x3), .val (.int ofs), .val (.int la_), .val (.int pa0), .val (.int pa1), .val (.int pa2), .val (.int lb_), .val (.int pb0), .val (.int pb1), .val (.int pb2), .val (.ref b11), .val (.ref b12), .unset, .unset, .unset] [(.int v22), (.int (v14 + v18))]) := by
        intro T24 L24 X24 e24 N24 v22 hv22
        refine w_iadd X24 hx (hb hby at_184) (pc' := 185) rfl ?_
        refine w_istore (Ls' := #[.val (.int x0), .val (.int x1), .val (.int x2), .val (.int x3), .val (.int ofs), .val (.int la_), .val (.int pa0), .val (.int pa1), .val (.int pa2), .val (.int lb_), .val (.int pb0), .val (.int pb1), .val (.int pb2), .val (.ref b11), .val (.ref b12), .val (.int ((v14 + v18) + v22)), .unset, .unset]) X24 hx (hb hby at_185) (pc' := 187) rfl rfl ?_
        obtain ⟨com, hcom⟩ : ∃ z : Int32, z = ((v14 + v18) + v22) := ⟨_, rfl⟩
        rw [← hcom]
        refine w_iload X24 hx (hb hby at_187) (pc' := 189) rfl rfl ?_
        refine w_iload X24 hx (hb hby at_189) (pc' := 191) rfl rfl ?_
        refine w_iadd X24 hx (hb hby at_191) (pc' := 192) rfl ?_
        refine w_iconst (v := 2) X24 hx (hb hby at_192) (pc' := 193) rfl rfl ?_
        refine w_iload X24 hx (hb hby at_193) (pc' := 195) rfl rfl ?_
        refine w_imul X24 hx (hb hby at_195) (pc' := 196) rfl ?_
        refine w_isub X24 hx (hb hby at_196) (pc' := 197) rfl ?_
        refine w_istore (Ls' := #[.val (.int x0), .val (.int x1), .val (.int x2), .val (.int x3), .val (.int ofs), .val (.int la_), .val (.int pa0), .val (.int pa1), .val (.int pa2), .val (.int lb_), .val (.int pb0), .val (.int pb1), .val (.int pb2), .val (.ref b11), .val (.ref b12), .val (.int com), .val (.int ((la_ + lb_) - ((2 : Int32) * com))), .unset]) X24 hx (hb hby at_197) (pc' := 199) rfl rfl ?_
        obtain ⟨dd, hdd⟩ : ∃ z : Int32, z = ((la_ + lb_) - ((2 : Int32) * com)) := ⟨_, rfl⟩
        rw [← hdd]
        refine w_aload X24 hx (hb hby at_199) (pc' := 201) rfl rfl rfl ?_
        refine w_aload X24 hx (hb hby at_201) (pc' := 203) rfl rfl rfl ?_
        refine w_iloadN X24 hx (hb hby at_203) (pc' := 204) rfl rfl ?_
        have f26 := V11.keep K12 nin0
        refine w_callS (argsL := [(.ref b11), (.ref b12), (.int x3)]) (rest := []) X24 hx hZ hown e24 (rm2 l Z a0 hw b11 b12 x3 T12.heap n0 (own_edges la_ pa0 pa1 pa2) (own_edges lb_ pb0 pb1 pb2) f26 V12 (own_small _ _ _ _ _ _ _ _)) (hw _ (List.mem_of_getElem? (i := 7) rfl)) (hw _ (List.mem_of_getElem? (i := 8) rfl)) (hw _ (List.mem_of_getElem? (i := 9) rfl)) (hw _ (List.mem_of_getElem? (i := 10) rfl)) (by decide) (by decide) (W := 0) (by decide) (by decide) (by decide) (by rw [hml]; rfl) (lenOf pd_2 rfl) (Nat.le_refl _) rfl (hb hby at_204) (pc' := 207) rfl (fun T25 L25 v25 X25 hQ25 => ?_)
        obtain ⟨rfl, N25q, e25⟩ := hQ25
        have N25 := Fr.app N24 N25q
        have X25 : Stand p l e room_1 s m _ below meth c T25 _ 2 6 := X25
        show Go p e below s room_1.cells room_1.slots (QL (some (.int 1)) n0) T25 (mkF m 207 #[.val (.int x0), .val (.int x1), .val (.int x2), .val (.int x3), .val (.int ofs), .val (.int la_), .val (.int pa0), .val (.int pa1), .val (.int pa2), .val (.int lb_), .val (.int pb0), .val (.int pb1), .val (.int pb2), .val (.ref b11), .val (.ref b12), .val (.int com), .val (.int dd), .unset] [(.int ((own_ds x3 0 (own_edges la_ pa0 pa1 pa2) (own_edges lb_ pb0 pb1 pb2)).toInt32))])
        refine w_istore (Ls' := #[.val (.int x0), .val (.int x1), .val (.int x2), .val (.int x3), .val (.int ofs), .val (.int la_), .val (.int pa0), .val (.int pa1), .val (.int pa2), .val (.int lb_), .val (.int pb0), .val (.int pb1), .val (.int pb2), .val (.ref b11), .val (.ref b12), .val (.int com), .val (.int dd), .val (.int ((own_ds x3 0 (own_edges la_ pa0 pa1 pa2) (own_edges lb_ pb0 pb1 pb2)).toInt32))]) X25 hx (hb hby at_207) (pc' := 209) rfl rfl ?_
        obtain ⟨rr, hrr⟩ : ∃ z : Int32, z = ((own_ds x3 0 (own_edges la_ pa0 pa1 pa2) (own_edges lb_ pb0 pb1 pb2)).toInt32) := ⟨_, rfl⟩
        rw [← hrr]
        refine w_iload X25 hx (hb hby at_209) (pc' := 211) rfl rfl ?_
        refine w_iloadN X25 hx (hb hby at_211) (pc' := 212) rfl rfl ?_
        refine w_icmp_gt X25 hx (hb hby at_212) (pf := 215) (pt := 228) rfl (by decide) (by decide) (fun hc212 => ?_) (fun hc212 => ?_)
        · refine w_iload X25 hx (hb hby at_228) (pc' := 230) rfl rfl ?_
          refine w_iloadN X25 hx (hb hby at_230) (pc' := 231) rfl rfl ?_
          have hf231 : x3 < rr := (own_law hofs hla_ hpa0 hpa1 hpa2 hlb_ hpb0 hpb1 hpb2 hv14 hv18 hv22 hcom hdd hrr).2 hc212
          refine w_icmp_le X25 hx (hb hby at_231) (pf := 234) (pt := 238) rfl (by decide) (by decide) (fun hc => absurd hf231 hc) (fun hc231 => ?_)
          refine w_iconst (v := 1) X25 hx (hb hby at_234) (pc' := 235) rfl rfl ?_
          refine w_goto X25 hx (hb hby at_235) (pc' := 239) (by decide) (by decide) ?_
          exact w_retZ X25 hx hret hlk (hb hby at_239) (by decide) (by decide) ⟨rfl, N25⟩
        · refine w_iload X25 hx (hb hby at_215) (pc' := 217) rfl rfl ?_
          refine w_iload X25 hx (hb hby at_217) (pc' := 219) rfl rfl ?_
          have hf219 : rr = dd := (own_law hofs hla_ hpa0 hpa1 hpa2 hlb_ hpb0 hpb1 hpb2 hv14 hv18 hv22 hcom hdd hrr).1 hc212
          refine w_icmp_ne X25 hx (hb hby at_219) (pf := 222) (pt := 226) rfl (by decide) (by decide) (fun hc => absurd hf219 hc) (fun hc219 => ?_)
          refine w_iconst (v := 1) X25 hx (hb hby at_222) (pc' := 223) rfl rfl ?_
          refine w_goto X25 hx (hb hby at_223) (pc' := 227) (by decide) (by decide) ?_
          exact w_retZ X25 hx hret hlk (hb hby at_227) (by decide) (by decide) ⟨rfl, N25⟩
      refine w_icmp_le X20 hx (hb hby at_164) (pf := 167) (pt := 183) rfl (by decide) (by decide) (fun hc164 => ?_) (fun hc164 => ?_)
      · refine w_iconst (v := 0) X20 hx (hb hby at_183) (pc' := 184) rfl rfl ?_
        exact J184_23 _ _ X20 e20 N20 ((0 : Int32)) (by rw [if_neg (show ¬ ((2 : Int32) < la_) from (by assumption))])
      · refine w_iload X20 hx (hb hby at_167) (pc' := 169) rfl rfl ?_
        refine w_iload X20 hx (hb hby at_169) (pc' := 171) rfl rfl ?_
        refine w_iload X20 hx (hb hby at_171) (pc' := 173) rfl rfl ?_
        refine w_iload X20 hx (hb hby at_173) (pc' := 175) rfl rfl ?_
        refine w_iload X20 hx (hb hby at_175) (pc' := 177) rfl rfl ?_
        refine w_callS (argsL := [(.int pa2), (.int lb_), (.int pb0), (.int pb1), (.int pb2)]) (rest := [(.int (v14 + v18))]) X20 hx hZ hown e20 (rm3 l Z a0 hw pa2 lb_ pb0 pb1 pb2 T12.heap n0) (hw _ (List.mem_of_getElem? (i := 11) rfl)) (hw _ (List.mem_of_getElem? (i := 12) rfl)) (hw _ (List.mem_of_getElem? (i := 4) rfl)) (hw _ (List.mem_of_getElem? (i := 13) rfl)) (by decide) (by decide) (W := 1) (by decide) (by decide) (by decide) (by rw [hml]; rfl) (lenOf pd_1 rfl) (Nat.le_refl _) rfl (hb hby at_177) (pc' := 180) rfl (fun T21 L21 v21 X21 hQ21 => ?_)
        obtain ⟨rfl, N21q, e21⟩ := hQ21
        have N21 := Fr.app N20 N21q
        have X21 : Stand p l e room_1 s m _ below meth c T21 _ 2 6 := X21
        show Go p e below s room_1.cells room_1.slots (QL (some (.int 1)) n0) T21 (mkF m 180 #[.val (.int x0), .val (.int x1), .val (.int x2), .val (.int x3), .val (.int ofs), .val (.int la_), .val (.int pa0), .val (.int pa1), .val (.int pa2), .val (.int lb_), .val (.int pb0), .val (.int pb1), .val (.int pb2), .val (.ref b11), .val (.ref b12), .unset, .unset, .unset] [(.int (K3_0 pa2 lb_ pb0 pb1 pb2)), (.int (v14 + v18))])
        refine w_goto X21 hx (hb hby at_180) (pc' := 184) (by decide) (by decide) ?_
        exact J184_23 _ _ X21 e21 N21 ((K3_0 pa2 lb_ pb0 pb1 pb2)) (by rw [if_pos (show (2 : Int32) < la_ from (by assumption))])
    refine w_icmp_le X16 hx (hb hby at_140) (pf := 143) (pt := 159) rfl (by decide) (by decide) (fun hc140 => ?_) (fun hc140 => ?_)
    · refine w_iconst (v := 0) X16 hx (hb hby at_159) (pc' := 160) rfl rfl ?_
      exact J160_19 _ _ X16 e16 N16 ((0 : Int32)) (by rw [if_neg (show ¬ ((1 : Int32) < la_) from (by assumption))])
    · refine w_iload X16 hx (hb hby at_143) (pc' := 145) rfl rfl ?_
      refine w_iload X16 hx (hb hby at_145) (pc' := 147) rfl rfl ?_
      refine w_iload X16 hx (hb hby at_147) (pc' := 149) rfl rfl ?_
      refine w_iload X16 hx (hb hby at_149) (pc' := 151) rfl rfl ?_
      refine w_iload X16 hx (hb hby at_151) (pc' := 153) rfl rfl ?_
      refine w_callS (argsL := [(.int pa1), (.int lb_), (.int pb0), (.int pb1), (.int pb2)]) (rest := [(.int v14)]) X16 hx hZ hown e16 (rm3 l Z a0 hw pa1 lb_ pb0 pb1 pb2 T12.heap n0) (hw _ (List.mem_of_getElem? (i := 11) rfl)) (hw _ (List.mem_of_getElem? (i := 12) rfl)) (hw _ (List.mem_of_getElem? (i := 4) rfl)) (hw _ (List.mem_of_getElem? (i := 13) rfl)) (by decide) (by decide) (W := 1) (by decide) (by decide) (by decide) (by rw [hml]; rfl) (lenOf pd_1 rfl) (Nat.le_refl _) rfl (hb hby at_153) (pc' := 156) rfl (fun T17 L17 v17 X17 hQ17 => ?_)
      obtain ⟨rfl, N17q, e17⟩ := hQ17
      have N17 := Fr.app N16 N17q
      have X17 : Stand p l e room_1 s m _ below meth c T17 _ 2 6 := X17
      show Go p e below s room_1.cells room_1.slots (QL (some (.int 1)) n0) T17 (mkF m 156 #[.val (.int x0), .val (.int x1), .val (.int x2), .val (.int x3), .val (.int ofs), .val (.int la_), .val (.int pa0), .val (.int pa1), .val (.int pa2), .val (.int lb_), .val (.int pb0), .val (.int pb1), .val (.int pb2), .val (.ref b11), .val (.ref b12), .unset, .unset, .unset] [(.int (K3_0 pa1 lb_ pb0 pb1 pb2)), (.int v14)])
      refine w_goto X17 hx (hb hby at_156) (pc' := 160) (by decide) (by decide) ?_
      exact J160_19 _ _ X17 e17 N17 ((K3_0 pa1 lb_ pb0 pb1 pb2)) (by rw [if_pos (show (1 : Int32) < la_ from (by assumption))])
  refine w_if_le X12 hx (hb hby at_117) (pf := 120) (pt := 136) rfl (by decide) (by decide) (fun hc117 => ?_) (fun hc117 => ?_)
  · refine w_iconst (v := 0) X12 hx (hb hby at_136) (pc' := 137) rfl rfl ?_
    exact J137_15 _ _ X12 rfl N12 ((0 : Int32)) (by rw [if_neg (show ¬ ((0 : Int32) < la_) from (by assumption))])
  · refine w_iload X12 hx (hb hby at_120) (pc' := 122) rfl rfl ?_
    refine w_iload X12 hx (hb hby at_122) (pc' := 124) rfl rfl ?_
    refine w_iload X12 hx (hb hby at_124) (pc' := 126) rfl rfl ?_
    refine w_iload X12 hx (hb hby at_126) (pc' := 128) rfl rfl ?_
    refine w_iload X12 hx (hb hby at_128) (pc' := 130) rfl rfl ?_
    refine w_callS (argsL := [(.int pa0), (.int lb_), (.int pb0), (.int pb1), (.int pb2)]) (rest := []) X12 hx hZ hown rfl (rm3 l Z a0 hw pa0 lb_ pb0 pb1 pb2 T12.heap n0) (hw _ (List.mem_of_getElem? (i := 11) rfl)) (hw _ (List.mem_of_getElem? (i := 12) rfl)) (hw _ (List.mem_of_getElem? (i := 4) rfl)) (hw _ (List.mem_of_getElem? (i := 13) rfl)) (by decide) (by decide) (W := 0) (by decide) (by decide) (by decide) (by rw [hml]; rfl) (lenOf pd_1 rfl) (Nat.le_refl _) rfl (hb hby at_130) (pc' := 133) rfl (fun T13 L13 v13 X13 hQ13 => ?_)
    obtain ⟨rfl, N13q, e13⟩ := hQ13
    have N13 := Fr.app N12 N13q
    have X13 : Stand p l e room_1 s m _ below meth c T13 _ 2 6 := X13
    show Go p e below s room_1.cells room_1.slots (QL (some (.int 1)) n0) T13 (mkF m 133 #[.val (.int x0), .val (.int x1), .val (.int x2), .val (.int x3), .val (.int ofs), .val (.int la_), .val (.int pa0), .val (.int pa1), .val (.int pa2), .val (.int lb_), .val (.int pb0), .val (.int pb1), .val (.int pb2), .val (.ref b11), .val (.ref b12), .unset, .unset, .unset] [(.int (K3_0 pa0 lb_ pb0 pb1 pb2))])
    refine w_goto X13 hx (hb hby at_133) (pc' := 137) (by decide) (by decide) ?_
    exact J137_15 _ _ X13 e13 N13 ((K3_0 pa0 lb_ pb0 pb1 pb2)) (by rw [if_pos (show (0 : Int32) < la_ from (by assumption))])
set_option maxRecDepth 65536 in
set_option maxHeartbeats 40000000 in
theorem comes_1 {Post : Tables → Env → Array Value → State → Outcome → State → Prop} (hpost : ∀ tb e args s v u, (limb_1_1.after args s (.returned v) u = true ∧ limb_1_2.after args s (.returned v) u = true ∧ True) → FrameEnd s (.returned v) u (Jvm.fieldLocs frame_1_writes args s ++ Jvm.arrayLocs frame_1_arrays args s ++ Jvm.staticLocs frame_1_statics s) 16 128 → Post tb e args s (.returned v) u) :
    ArmFor flags0 classFile x code maxLocals ret World_1 tables_1 room_1 Calls_1 rest_1 Pre_1 Post := by
  intro l hfl _ _ p e ha hc hk s m args below hf hA hF happ hP
  obtain ⟨hcalls, hrest, hpre⟩ := hP
  obtain ⟨-, -, -, hnamed, -, -, -, hat⟩ := (Spec.applies_iff hf).mp happ
  obtain ⟨hg, hn⟩ := and_e (Cond.before_iff.mp (show (Jvm.Cond.and given_1 narrow_1).before args s = true from hpre))
  obtain ⟨g1, g2⟩ := and_e hg
  obtain ⟨g3, g4⟩ := and_e g2
  obtain ⟨g5, g6⟩ := and_e g4
  obtain ⟨g7, g8⟩ := and_e g6
  obtain ⟨w0, w1, w2, w3, rfl⟩ : ∃ w0 w1 w2 w3 : Value, args = #[w0, w1, w2, w3] := by
    have hs : args.size = 4 := by simpa [Cond.value, given_1] using g1
    obtain ⟨L⟩ := args
    match L, hs with
    | [w0, w1, w2, w3], _ => exact ⟨w0, w1, w2, w3, rfl⟩
  have hw := fun d (hd : d ∈ tables_1) => atoms_spec (ws := Jvm.Cond.code x code maxLocals ret :: tables_1) hat d (List.mem_cons_of_mem _ hd)
  obtain ⟨i0, ei0⟩ := is_v g3
  obtain rfl : w0 = (.int i0) := Option.some.inj ei0
  obtain ⟨i1, ei1⟩ := is_v g5
  obtain rfl : w1 = (.int i1) := Option.some.inj ei1
  obtain ⟨i2, ei2⟩ := is_v g7
  obtain rfl : w2 = (.int i2) := Option.some.inj ei2
  obtain ⟨i3, ei3⟩ := is_v g8
  obtain rfl : w3 = (.int i3) := Option.some.inj ei3
  have C := rm0 l s _ hw i0 i1 i2 i3 s.heap s.heap.size (Nat.le_refl _)
  obtain ⟨n, o, h1, h2, h3, v, L, rfl, ⟨rfl, N⟩, hq⟩ := C tables_1 p e ha hc hk s m _ below hf ((Spec.applies_iff_loose hf).mp happ).1 ⟨rfl, State.Warmed39.refl s, rfl⟩ trivial
  refine ⟨n, _, h1, h2, h3, hpost _ _ _ _ _ _ ⟨Cond.after_iff.mpr rfl, Cond.after_iff.mpr (eq_i res_at (Term.int_eval (1)) rfl), trivial⟩ ⟨hq.1, hq.2.1, (hq.2.2.sift fun y hy => Or.inr (N y hy)).mono (by decide) (by decide)⟩⟩
theorem main_1_1 : Claimed_1_1 := comes_1 fun _ _ _ _ _ _ h hF => ⟨h.1, hF⟩
theorem main_1_2 : Claimed_1_2 := comes_1 fun _ _ _ _ _ _ h hF => ⟨h.2.1, hF⟩
end Jvm.Pilot.@@N@@
namespace Jvm.Pilot.@@N@@
open Jvm Jvm.ClassFile Sem Op Lib Jvm.Free Jvm.Stand Jvm.Pilot.@@N@@.Jvm.D
/-! MADE BY PROGRAM (witnessworld.py) out of the Statement's table words and the real class files: 9 classes; the members and pool entries that the words name. The judged class is class 1, her method 3. -/
namespace start1
open Jvm.ClassFile
def u (s : String) : CpInfo := .utf8 (stringToUtf16 s)
/-- a pool by its gaps: so many unusable entries, then the entry; so many at the end -/
def gap : Nat → List CpInfo → List CpInfo
  | 0, r => r
  | n + 1, r => .unusable :: gap n r
def poolList (es : List (Nat × CpInfo)) (last : Nat) : List CpInfo := es.foldr (fun e r => gap e.1 (e.2 :: r)) (gap last [])
def pool (es : List (Nat × CpInfo)) (last : Nat) : Array CpInfo := ⟨poolList es last⟩
def fileOf (pool : Array CpInfo) (this : Nat) (attrs : Array Attribute := #[]) (ms : Array MethodInfo := #[]) (fl : Nat := 33) (sup : Nat := 0) (ifs : Array Nat := #[]) (fds : Array FieldInfo := #[]) : ClassFile where
  minorVersion := 0
  majorVersion := 65
  constantPool := pool
  accessFlags := fl
  thisClass := this
  superClass := sup
  interfaces := ifs
  fields := fds
  methods := ms
  attributes := attrs
def plain (name : String) (sup : Option ClassId) : Class where
  name := name
  kind := .ordinary
  loader := none
  accessFlags := 33
  super := sup
  interfaces := #[]
  cf := none
  fields := #[]
  methods := #[]
  instanceTypes := #[]
  staticTypes := #[]
  resolved := #[]
  callSites := []
  init := .initialized
  statics := none
  mirror := none

def pool0 : Array CpInfo := pool [(5, u "<init>"), (0, u "()V"), (1, .class_ 10), (1, u "java/lang/Object")] 113

def k0m0 : Method := { name := "<init>", desc := "()V", sig := { parameters := [], returnType := none }, accessFlags := 1, code := none }
/-- java/lang/Object -/
def k0 : Class := { plain "java/lang/Object" none with
  accessFlags := 33
  interfaces := #[]
  cf := some (fileOf pool0 8 #[] #[{ accessFlags := 1, nameIndex := 5, descriptorIndex := 6, attributes := #[] }] 33 0 #[] #[])
  fields := #[]
  methods := #[k0m0]
  instanceTypes := #[]
  staticTypes := #[]
  resolved := Array.replicate 124 none
  statics := none }

def pool1 : Array CpInfo := pool [(2, .class_ 4), (1, u "java/lang/Object"), (0, u "<init>"), (0, u "()V"), (0, .integer 2147483647), (0, .integer 1114096), (0, .methodref 10 11), (0, .class_ 12), (0, .nameAndType 13 14), (0, u "com/example/facet/facet/regex/RangesDifferenceSizePinLaw"), (0, u "edges"), (0, u "(IIII)[I"), (0, .methodref 10 16), (0, .nameAndType 17 18), (0, u "hit"), (0, u "(IIIII)I"), (0, .methodref 20 21), (0, .class_ 22), (0, .nameAndType 23 24), (0, u "com/example/facet/facet/regex/Ranges"), (0, u "differenceSize"), (0, u "([I[II)I"), (3, u "law"), (0, u "(IIII)Z")] 4

def k1m0 : Method := { name := "<init>", desc := "()V", sig := { parameters := [], returnType := none }, accessFlags := 2, code := none }
def k1c1 : Code := { maxStack := 4, maxLocals := 4, code := method_2_code, exceptionTable := #[], attributes := #[] }
def k1m1 : Method := { name := "edges", desc := "(IIII)[I", sig := { parameters := [.int, .int, .int, .int], returnType := some (.array .int) }, accessFlags := 10, code := some k1c1 }
def k1c2 : Code := { maxStack := 2, maxLocals := 6, code := method_3_code, exceptionTable := #[], attributes := #[] }
def k1m2 : Method := { name := "hit", desc := "(IIIII)I", sig := { parameters := [.int, .int, .int, .int, .int], returnType := some .int }, accessFlags := 10, code := some k1c2 }
def k1c3 : Code := { maxStack := 6, maxLocals := 18, code := code, exceptionTable := #[], attributes := #[] }
def k1m3 : Method := { name := "law", desc := "(IIII)Z", sig := { parameters := [.int, .int, .int, .int], returnType := some .boolean }, accessFlags := 9, code := some k1c3 }
/-- com/example/facet/facet/regex/RangesDifferenceSizePinLaw -/
def k1 : Class := { plain "com/example/facet/facet/regex/RangesDifferenceSizePinLaw" (some 0) with
  accessFlags := 49
  interfaces := #[]
  cf := some (fileOf pool1 10 #[] #[{ accessFlags := 2, nameIndex := 5, descriptorIndex := 6, attributes := #[] }, { accessFlags := 10, nameIndex := 13, descriptorIndex := 14, attributes := #[] }, { accessFlags := 10, nameIndex := 17, descriptorIndex := 18, attributes := #[] }, { accessFlags := 9, nameIndex := 28, descriptorIndex := 29, attributes := #[] }] 49 2 #[] #[])
  fields := #[]
  methods := #[k1m0, k1m1, k1m2, k1m3]
  instanceTypes := #[]
  staticTypes := #[]
  resolved := Array.replicate 34 none
  statics := none }

def pool2 : Array CpInfo := pool [(2, .class_ 4), (1, u "java/lang/Object"), (0, u "<init>"), (0, u "()V"), (19, .class_ 28), (1, u "com/example/facet/facet/regex/Ranges"), (26, u "NONE"), (0, u "[I"), (22, u "differenceSize"), (0, u "([I[II)I")] 3

def k2m0 : Method := { name := "<init>", desc := "()V", sig := { parameters := [], returnType := none }, accessFlags := 2, code := none }
def k2c1 : Code := { maxStack := 3, maxLocals := 6, code := prog_49_method_17_code, exceptionTable := #[], attributes := #[] }
def k2m1 : Method := { name := "differenceSize", desc := "([I[II)I", sig := { parameters := [(.array .int), (.array .int), .int], returnType := some .int }, accessFlags := 8, code := some k2c1 }
/-- com/example/facet/facet/regex/Ranges -/
def k2 : Class := { plain "com/example/facet/facet/regex/Ranges" (some 0) with
  accessFlags := 48
  interfaces := #[]
  cf := some (fileOf pool2 26 #[] #[{ accessFlags := 2, nameIndex := 5, descriptorIndex := 6, attributes := #[] }, { accessFlags := 8, nameIndex := 79, descriptorIndex := 80, attributes := #[] }] 48 2 #[] #[{ accessFlags := 24, nameIndex := 55, descriptorIndex := 56, attributes := #[] }])
  fields := #[{ name := "NONE", type := (.array .int), accessFlags := 24, slot := 0, constantValue := 0 }]
  methods := #[k2m0, k2m1]
  instanceTypes := #[]
  staticTypes := #[(.array .int)]
  resolved := Array.replicate 84 none
  statics := none }

def pool3 : Array CpInfo := pool [(1, u "java/lang/Cloneable"), (0, .class_ 1), (0, u "java/lang/Object"), (0, .class_ 3)] 3

/-- java/lang/Cloneable -/
def k3 : Class := { plain "java/lang/Cloneable" (some 0) with
  accessFlags := 1537
  interfaces := #[]
  cf := some (fileOf pool3 2 #[] #[] 1537 4 #[] #[])
  fields := #[]
  methods := #[]
  instanceTypes := #[]
  staticTypes := #[]
  resolved := Array.replicate 8 none
  statics := none }

def pool4 : Array CpInfo := pool [(1, u "java/io/Serializable"), (0, .class_ 1), (0, u "java/lang/Object"), (0, .class_ 3)] 3

/-- java/io/Serializable -/
def k4 : Class := { plain "java/io/Serializable" (some 0) with
  accessFlags := 1537
  interfaces := #[]
  cf := some (fileOf pool4 2 #[] #[] 1537 4 #[] #[])
  fields := #[]
  methods := #[]
  instanceTypes := #[]
  staticTypes := #[]
  resolved := Array.replicate 8 none
  statics := none }

/-- the primitive byte -/
def k5 : Class := { plain "byte" none with kind := .primitive 'B', accessFlags := 0x411 }
/-- [B -/
def k6 : Class := { plain "[B" (some 0) with kind := .array 5 .byte, interfaces := #[3, 4], accessFlags := 1041 }

/-- the primitive int -/
def k7 : Class := { plain "int" none with kind := .primitive 'I', accessFlags := 0x411 }
/-- [I -/
def k8 : Class := { plain "[I" (some 0) with kind := .array 7 .int, interfaces := #[3, 4], accessFlags := 1041 }

def heap : Heap := #[]
def classes : Array Class := #[k0, k1, k2, k3, k4, k5, k6, k7, k8]
def interned : List (Array UInt16 × Addr) := []
def slotsUsed : Nat := 0
def theMethod : MethodId := ⟨1, 3⟩
def args0 : Array Value := #[.int 3, .int 4, .int 5, .int 6]
def aboutOver (below : List Frame) : State where
  vm := { classes := classes, interned := interned.toArray }
  heap := heap
  slotsUsed := slotsUsed
  threads := #[{ frames := .invoking theMethod args0 :: below }]
def below0 : List Frame := [.native { method := ⟨0, 0⟩, args := #[] }]
def about1 : State := aboutOver below0
def p0 : Program := .bare "" "" ""
def e0 : Env := launch0.env 0 0 0
theorem w_frames : about1.frames = Frame.invoking theMethod args0 :: below0 := rfl
set_option maxRecDepth 65536 in
theorem w_args : argsFit about1.vm theMethod args0 = true := by decide +kernel
set_option maxRecDepth 65536 in
theorem w_heap : heapFits about1 = true := by decide +kernel
set_option maxRecDepth 65536 in
theorem w_runnable : about1.curStatus? = some .runnable := by decide +kernel
set_option maxRecDepth 65536 in
theorem w_alone : about1.alone = true := by decide +kernel
set_option maxRecDepth 65536 in
theorem w_named : about1.methodNamed? x = some theMethod := by decide +kernel
set_option maxRecDepth 65536 in
theorem w_hears : about1.hears theMethod below0 = true := by decide +kernel
set_option maxRecDepth 65536 in
theorem w_ripe : about1.ripe theMethod args0 below0 = true := by decide +kernel
theorem w_running : about1.status = .running := rfl
set_option maxRecDepth 65536 in
theorem w_room : about1.hasRoom e0.platform room_1 = true :=
  launch0.hasRoom_least _ room_1 (by decide +kernel) (by decide +kernel) (by decide +kernel) (by decide +kernel) (by decide +kernel) (by decide +kernel)
theorem allAtoms_all (ts : List Jvm.Cond) (a : Array Jvm.Value) (st : Jvm.State) : (allAtoms ts).before a st = ts.all (fun c => c.before a st) := by
  induction ts with
  | nil => rfl
  | cons c t ih =>
    show (Jvm.Cond.and c (allAtoms t)).before a st = _
    rw [Jvm.Cond.before_and, ih, List.all_cons]
def words1 : List Jvm.Cond := Jvm.Cond.code x code maxLocals ret :: tables_1
/-- a 'code' word, met by the world's own term for the bytes: nothing is compared byte by byte -/
theorem code_word {y : MethodName} {bytes : ByteArray} {mx : Nat} {rt : Option FieldType} {a : Array Value} {s : State} {m : MethodId} {meth : Method} {c : Code} (h1 : s.methodNamed? y = some m) (h2 : s.vm.method? m = some meth) (h3 : meth.code = some c) (h4 : c.code = bytes)
    (h5 : (c.maxLocals == mx && c.exceptionTable.isEmpty && decide (c.maxStack ≤ mostOperands) && decide (meth.sig.returnType = rt) && !meth.locks && decide (parseMethodDescriptor y.desc = some meth.sig)) = true) : (Jvm.Cond.code y bytes mx rt).before a s = true := by
  simp only [Bool.and_eq_true, beq_iff_eq, Bool.not_eq_true', decide_eq_true_eq] at h5
  obtain ⟨⟨⟨⟨⟨g1, g2⟩, g3⟩, g4⟩, g5⟩, g6⟩ := h5
  simp [Cond.before, Cond.holds, Cond.value, h1, h2, h3, h4, g1, g2, g3, g4, g5, g6]
def isCode : Jvm.Cond → Bool
  | .code _ _ _ _ => true
  | _ => false
theorem all_split {L : List Jvm.Cond} {P : Jvm.Cond → Bool} (h1 : L.all (fun c => isCode c || P c) = true) (h2 : ∀ c ∈ L.filter isCode, P c = true) : L.all P = true := by
  refine List.all_eq_true.mpr fun c hc => ?_
  have h := List.all_eq_true.mp h1 c hc
  rcases Bool.eq_false_or_eq_true (isCode c) with hi | hi
  · exact h2 c (List.mem_filter.mpr ⟨hc, hi⟩)
  · simpa [hi] using h
set_option maxRecDepth 65536 in
theorem w_c0 : (Jvm.Cond.code x code maxLocals ret).before args0 about1 = true := code_word (m := ⟨1, 3⟩) (meth := k1m3) (c := k1c3) (by decide +kernel) rfl rfl rfl (by decide +kernel)
set_option maxRecDepth 65536 in
theorem w_c1 : (Jvm.Cond.code ({ cls := "com/example/facet/facet/regex/RangesDifferenceSizePinLaw", name := "edges", desc := "(IIII)[I" } : Jvm.MethodName) method_2_code (4 : Nat) (Option.some (Jvm.ClassFile.FieldType.array Jvm.ClassFile.FieldType.int))).before args0 about1 = true := code_word (m := ⟨1, 1⟩) (meth := k1m1) (c := k1c1) (by decide +kernel) rfl rfl rfl (by decide +kernel)
set_option maxRecDepth 65536 in
theorem w_c2 : (Jvm.Cond.code ({ cls := "com/example/facet/facet/regex/Ranges", name := "differenceSize", desc := "([I[II)I" } : Jvm.MethodName) prog_49_method_17_code (6 : Nat) (Option.some Jvm.ClassFile.FieldType.int)).before args0 about1 = true := code_word (m := ⟨2, 1⟩) (meth := k2m1) (c := k2c1) (by decide +kernel) rfl rfl rfl (by decide +kernel)
set_option maxRecDepth 65536 in
theorem w_c3 : (Jvm.Cond.code ({ cls := "com/example/facet/facet/regex/RangesDifferenceSizePinLaw", name := "hit", desc := "(IIIII)I" } : Jvm.MethodName) method_3_code (6 : Nat) (Option.some Jvm.ClassFile.FieldType.int)).before args0 about1 = true := code_word (m := ⟨1, 2⟩) (meth := k1m2) (c := k1c2) (by decide +kernel) rfl rfl rfl (by decide +kernel)
def codes1 : List Jvm.Cond := [Jvm.Cond.code x code maxLocals ret, Jvm.Cond.code ({ cls := "com/example/facet/facet/regex/RangesDifferenceSizePinLaw", name := "edges", desc := "(IIII)[I" } : Jvm.MethodName) method_2_code (4 : Nat) (Option.some (Jvm.ClassFile.FieldType.array Jvm.ClassFile.FieldType.int)), Jvm.Cond.code ({ cls := "com/example/facet/facet/regex/Ranges", name := "differenceSize", desc := "([I[II)I" } : Jvm.MethodName) prog_49_method_17_code (6 : Nat) (Option.some Jvm.ClassFile.FieldType.int), Jvm.Cond.code ({ cls := "com/example/facet/facet/regex/RangesDifferenceSizePinLaw", name := "hit", desc := "(IIIII)I" } : Jvm.MethodName) method_3_code (6 : Nat) (Option.some Jvm.ClassFile.FieldType.int)]
set_option maxRecDepth 65536 in
theorem codes_eq : words1.filter isCode = codes1 := rfl
theorem w_codes : ∀ c ∈ words1.filter isCode, c.before args0 about1 = true := by
  rw [codes_eq]
  intro c hc
  simp only [codes1, List.mem_cons, List.not_mem_nil, or_false] at hc
  rcases hc with rfl | rfl | rfl | rfl
  · exact w_c0
  · exact w_c1
  · exact w_c2
  · exact w_c3
set_option maxRecDepth 65536 in
theorem w_t1 : words1.all (fun c => isCode c || c.before args0 about1) = true := by decide +kernel
theorem w_tables : (allAtoms (Jvm.Cond.code x code maxLocals ret :: tables_1)).before args0 about1 = true := by
  rw [allAtoms_all]
  show words1.all (fun c => c.before args0 about1) = true
  refine all_split ?_ w_codes
  rw [w_t1]
set_option maxRecDepth 65536 in
theorem w_case : (Jvm.Cond.and given_1 narrow_1).before args0 about1 = true := by decide +kernel
theorem w_applies : (headSpec (Jvm.Cond.code x code maxLocals ret :: tables_1) room_1).applies x e0.platform about1 = true :=
  (Spec.applies_iff w_frames).mpr ⟨w_running, w_runnable, w_alone, w_named, w_hears, w_ripe, w_room, w_tables⟩
theorem atStart : AtStart classFile x code maxLocals ret World_1 tables_1 room_1 Calls_1 rest_1 Pre_1 launch0 p0 e0 about1 theMethod args0 below0 :=
  ⟨lists_1, trivial, launch0.admits_env _ _ _, launch0.least_env, fairChoices_fair.cas, fairChoices_fair.clock, w_frames, w_args, w_heap, w_applies, trivial, trivial, w_case⟩
end start1
theorem witness_1 : WitnessClaimed_1 := ⟨start1.p0, start1.e0, start1.about1, start1.theMethod, start1.args0, start1.below0, start1.atStart⟩
end Jvm.Pilot.@@N@@
