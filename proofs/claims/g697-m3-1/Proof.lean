import JvmDerived
import JvmDerived.Pilot.@@N@@Statement
import JvmDerived.Pilot.@@N@@Code
set_option linter.unusedVariables false
set_option linter.unusedSimpArgs false
@@BLOCK:NumsL.lean.txt@@
namespace Jvm.Pilot.@@N@@
open Jvm Jvm.ClassFile Sem Op Lib Jvm.Free Jvm.Stand Jvm.LawKit Jvm.RoadKit Bundle Jvm.Pilot.@@N@@.Jvm.D
section OwnKit
variable {p : Program} {l : Launch} {e : Env} {R : Room} {s : State} {m : MethodId} {args : Array Value} {below : List Frame} {meth : Method} {c : Code} {T T' : State} {locs : List Loc} {cells slots : Nat} {Z : State} {a0 : Array Value} {h h' : Heap} {cm sm : Nat} {Q : Option Value → Heap → List Loc → Prop} {pc pc' : Nat} {Ls Ls' : Array Slot} {St : List Value}
/-- the walk's goal: from this frame the method comes to its end, and Q holds of what it leaves -/
def Go (p : Program) (e : Env) (below : List Frame) (s : State) (cm sm : Nat) (Q : Option Value → Heap → List Loc → Prop) (T : State) (g : JFrame) : Prop :=
  ∃ s₂ o, Steps p.tables e below (T.setTop g) s₂ ∧ s₂.status = .running ∧ Ended s₂ below o ∧ ∃ v L, o = .returned v ∧ Q v s₂.heap L ∧ FrameEnd s o s₂ L cm sm
theorem Go.st {g g' : JFrame} (q : ∀ t, Steps p.tables e below (T'.setTop g') t → Steps p.tables e below (T.setTop g) t) (k : Go p e below s cm sm Q T' g') : Go p e below s cm sm Q T g := by
  obtain ⟨s₂, o, st, r⟩ := k
  exact ⟨s₂, o, q _ st, r⟩
theorem Go.weak {g : JFrame} {Q' : Option Value → Heap → List Loc → Prop} (k : Go p e below s cm sm Q T g) (q : ∀ v h L, Q v h L → Q' v h L) : Go p e below s cm sm Q' T g := by
  obtain ⟨s₂, o, st, r1, r2, v, L, r3, r4, r5⟩ := k
  exact ⟨s₂, o, st, r1, r2, v, L, r3, q _ _ _ r4, r5⟩
/-- a contract -/
def Con (l : Launch) (Z : State) (y : MethodName) (bytes : ByteArray) (maxL : Nat) (ret : Option FieldType) (rm : Room) (as' : Array Value) (h : Heap) (Q : Option Value → Heap → List Loc → Prop) : Prop :=
  ∀ ws : List Jvm.Cond, MetFree l y (head1 (Jvm.Cond.code y bytes maxL ret :: ws) rm) (fun a U => a = as' ∧ Z.Warmed39 U.vm ∧ U.heap = h) (fun _ _ _ _ _ => True) (fun _ U o U' => ∃ v L, o = .returned v ∧ Q v U'.heap L ∧ FrameEnd U o U' L rm.cells rm.slots)
theorem Con.of {y : MethodName} {bytes : ByteArray} {maxL : Nat} {ret : Option FieldType} {rm : Room} {as' : Array Value} (hpl : plainFor y = true)
    (body : ∀ (p : Program) (e : Env) (s : State) (m : MethodId) (below : List Frame) (meth : Method) (c : Code) (T : State), Stand p l e rm s m as' below meth c T [] 0 0 → p.tables.exec = Jvm.exec → Z.Warmed39 s.vm → c.code = bytes → c.maxLocals = maxL → s.vm.findClass y.cls = some m.cls → meth.name = y.name → meth.sig.returnType = ret → meth.locks = false → T.heap = h → Go p e below s rm.cells rm.slots Q T (entryFrame m as' maxL)) :
    Con l Z y bytes maxL ret rm as' h Q := by
  intro ws
  refine MetFree.of_bodySF hpl hisR ?_
  intro p e s m args below meth c s₁ Bd hml0 hP hK
  obtain ⟨rfl, hZ, hh⟩ := hP
  exact body p e s m below meth c s₁ (Stand.of_body Bd) Bd.exec hZ Bd.bytes hml0 (findClass_of_methodNamed Bd.named) (name_of_methodNamed Bd.named Bd.method).1 Bd.returns Bd.notSynchronized (by rw [← hh, Bd.state]; rfl)
theorem Con.weak {y : MethodName} {bytes : ByteArray} {maxL : Nat} {ret : Option FieldType} {rm : Room} {as' : Array Value} {Q' : Option Value → Heap → List Loc → Prop} (C : Con l Z y bytes maxL ret rm as' h Q) (q : ∀ v h L, Q v h L → Q' v h L) : Con l Z y bytes maxL ret rm as' h Q' := by
  intro ws p e ha hc hk s m args below hf happ hP hK
  obtain ⟨n, o, h1, h2, h3, v, L, r3, r4, r5⟩ := C ws p e ha hc hk s m args below hf happ hP hK
  exact ⟨n, o, h1, h2, h3, v, L, r3, q _ _ _ r4, r5⟩
/-- what a body that writes nothing leaves -/
abbrev QP (v0 : Option Value) (h0 : Heap) (n0 : Nat) : Option Value → Heap → List Loc → Prop := fun v h L => v = v0 ∧ Fr n0 L ∧ h = h0
/-- what a law leaves -/
abbrev QL (v0 : Option Value) (n0 : Nat) : Option Value → Heap → List Loc → Prop := fun v _ L => v = v0 ∧ Fr n0 L
/-- iushr, lushr -/
def jushr (x y : Int32) : Int32 := (x.toUInt32 >>> (y &&& 31).toUInt32).toInt32
def jlushr (x : Int64) (y : Int32) : Int64 := (x.toUInt64 >>> (y &&& 0x3f).toInt64.toUInt64).toInt64
theorem w_iloadN (X : Stand p l e R s m args below meth c T locs cells slots) (hx : p.tables.exec = Jvm.exec) {k : Fin 4} {v : Int32} (hd : decode c.code pc = .ok (.iload_n k, 1)) (hp : pc + 1 = pc') (hl : Ls[k.val]? = some (.val (.int v)))
    (kk : Go p e below s cm sm Q T (mkF m pc' Ls (.int v :: St))) : Go p e below s cm sm Q T (mkF m pc Ls (St)) := by
  subst hp
  exact Go.st (fun t q => XS.iloadN (g := mkF m pc Ls (St)) X.here hx rfl hd hl q) kk
theorem w_iload (X : Stand p l e R s m args below meth c T locs cells slots) (hx : p.tables.exec = Jvm.exec) {k : Nat} {v : Int32} (hd : decode c.code pc = .ok (.iload k, 2)) (hp : pc + 2 = pc') (hl : Ls[k]? = some (.val (.int v)))
    (kk : Go p e below s cm sm Q T (mkF m pc' Ls (.int v :: St))) : Go p e below s cm sm Q T (mkF m pc Ls (St)) := by
  subst hp
  exact Go.st (fun t q => XS.iload (g := mkF m pc Ls (St)) X.here hx rfl hd hl q) kk
theorem w_istoreN (X : Stand p l e R s m args below meth c T locs cells slots) (hx : p.tables.exec = Jvm.exec) {k : Fin 4} {x : Int32} (hd : decode c.code pc = .ok (.istore_n k, 1)) (hp : pc + 1 = pc') (hl : storeLocals Ls k.val (.int x) = some Ls')
    (kk : Go p e below s cm sm Q T (mkF m pc' Ls' (St))) : Go p e below s cm sm Q T (mkF m pc Ls (.int x :: St)) := by
  subst hp
  exact Go.st (fun t q => XS.istoreN (g := mkF m pc Ls (.int x :: St)) X.here hx rfl hd rfl hl q) kk
theorem w_istore (X : Stand p l e R s m args below meth c T locs cells slots) (hx : p.tables.exec = Jvm.exec) {k : Nat} {x : Int32} (hd : decode c.code pc = .ok (.istore k, 2)) (hp : pc + 2 = pc') (hl : storeLocals Ls k (.int x) = some Ls')
    (kk : Go p e below s cm sm Q T (mkF m pc' Ls' (St))) : Go p e below s cm sm Q T (mkF m pc Ls (.int x :: St)) := by
  subst hp
  exact Go.st (fun t q => XS.istore (g := mkF m pc Ls (.int x :: St)) X.here hx rfl hd rfl hl q) kk
theorem w_lloadN (X : Stand p l e R s m args below meth c T locs cells slots) (hx : p.tables.exec = Jvm.exec) {k : Fin 4} {v : Int64} (hd : decode c.code pc = .ok (.lload_n k, 1)) (hp : pc + 1 = pc') (hl : Ls[k.val]? = some (.val (.long v)))
    (kk : Go p e below s cm sm Q T (mkF m pc' Ls (.long v :: St))) : Go p e below s cm sm Q T (mkF m pc Ls (St)) := by
  subst hp
  exact Go.st (fun t q => XS.lloadN (g := mkF m pc Ls (St)) X.here hx rfl hd hl q) kk
theorem w_lload (X : Stand p l e R s m args below meth c T locs cells slots) (hx : p.tables.exec = Jvm.exec) {k : Nat} {v : Int64} (hd : decode c.code pc = .ok (.lload k, 2)) (hp : pc + 2 = pc') (hl : Ls[k]? = some (.val (.long v)))
    (kk : Go p e below s cm sm Q T (mkF m pc' Ls (.long v :: St))) : Go p e below s cm sm Q T (mkF m pc Ls (St)) := by
  subst hp
  exact Go.st (fun t q => XS.lload (g := mkF m pc Ls (St)) X.here hx rfl hd hl q) kk
theorem w_lstoreN (X : Stand p l e R s m args below meth c T locs cells slots) (hx : p.tables.exec = Jvm.exec) {k : Fin 4} {x : Int64} (hd : decode c.code pc = .ok (.lstore_n k, 1)) (hp : pc + 1 = pc') (hl : storeLocals Ls k.val (.long x) = some Ls')
    (kk : Go p e below s cm sm Q T (mkF m pc' Ls' (St))) : Go p e below s cm sm Q T (mkF m pc Ls (.long x :: St)) := by
  subst hp
  exact Go.st (fun t q => XS.lstoreN (g := mkF m pc Ls (.long x :: St)) X.here hx rfl hd rfl hl q) kk
theorem w_lstore (X : Stand p l e R s m args below meth c T locs cells slots) (hx : p.tables.exec = Jvm.exec) {k : Nat} {x : Int64} (hd : decode c.code pc = .ok (.lstore k, 2)) (hp : pc + 2 = pc') (hl : storeLocals Ls k (.long x) = some Ls')
    (kk : Go p e below s cm sm Q T (mkF m pc' Ls' (St))) : Go p e below s cm sm Q T (mkF m pc Ls (.long x :: St)) := by
  subst hp
  exact Go.st (fun t q => XS.lstore (g := mkF m pc Ls (.long x :: St)) X.here hx rfl hd rfl hl q) kk
theorem w_aloadN (X : Stand p l e R s m args below meth c T locs cells slots) (hx : p.tables.exec = Jvm.exec) {k : Fin 4} {v : Value} (hd : decode c.code pc = .ok (.aload_n k, 1)) (hp : pc + 1 = pc') (hl : Ls[k.val]? = some (.val v)) (hv : v.isRef = true)
    (kk : Go p e below s cm sm Q T (mkF m pc' Ls (v :: St))) : Go p e below s cm sm Q T (mkF m pc Ls (St)) := by
  subst hp
  exact Go.st (fun t q => XS.aloadN (g := mkF m pc Ls (St)) X.here hx rfl hd hl hv q) kk
theorem w_aload (X : Stand p l e R s m args below meth c T locs cells slots) (hx : p.tables.exec = Jvm.exec) {k : Nat} {v : Value} (hd : decode c.code pc = .ok (.aload k, 2)) (hp : pc + 2 = pc') (hl : Ls[k]? = some (.val v)) (hv : v.isRef = true)
    (kk : Go p e below s cm sm Q T (mkF m pc' Ls (v :: St))) : Go p e below s cm sm Q T (mkF m pc Ls (St)) := by
  subst hp
  exact Go.st (fun t q => XS.aload (g := mkF m pc Ls (St)) X.here hx rfl hd hl hv q) kk
theorem w_astoreN (X : Stand p l e R s m args below meth c T locs cells slots) (hx : p.tables.exec = Jvm.exec) {k : Fin 4} {x : Value} (hd : decode c.code pc = .ok (.astore_n k, 1)) (hp : pc + 1 = pc') (hv : x.isRef = true) (hl : storeLocals Ls k.val x = some Ls')
    (kk : Go p e below s cm sm Q T (mkF m pc' Ls' (St))) : Go p e below s cm sm Q T (mkF m pc Ls (x :: St)) := by
  subst hp
  exact Go.st (fun t q => XS.astoreN (g := mkF m pc Ls (x :: St)) X.here hx rfl hd rfl hv hl q) kk
theorem w_astore (X : Stand p l e R s m args below meth c T locs cells slots) (hx : p.tables.exec = Jvm.exec) {k : Nat} {x : Value} (hd : decode c.code pc = .ok (.astore k, 2)) (hp : pc + 2 = pc') (hv : x.isRef = true) (hl : storeLocals Ls k x = some Ls')
    (kk : Go p e below s cm sm Q T (mkF m pc' Ls' (St))) : Go p e below s cm sm Q T (mkF m pc Ls (x :: St)) := by
  subst hp
  exact Go.st (fun t q => XS.astore (g := mkF m pc Ls (x :: St)) X.here hx rfl hd rfl hv hl q) kk
theorem w_iconst (X : Stand p l e R s m args below meth c T locs cells slots) (hx : p.tables.exec = Jvm.exec) {i : Int} {v : Int32} (hd : decode c.code pc = .ok (.iconst i, 1)) (hp : pc + 1 = pc') (hv : Int32.ofInt i = v)
    (kk : Go p e below s cm sm Q T (mkF m pc' Ls (.int v :: St))) : Go p e below s cm sm Q T (mkF m pc Ls St) := by
  subst hp hv
  exact Go.st (fun t q => XS.iconst (g := mkF m pc Ls St) X.here hx rfl hd q) kk
theorem w_bipush (X : Stand p l e R s m args below meth c T locs cells slots) (hx : p.tables.exec = Jvm.exec) {i : Int} {v : Int32} (hd : decode c.code pc = .ok (.bipush i, 2)) (hp : pc + 2 = pc') (hv : (Int8.ofInt i).toInt32 = v)
    (kk : Go p e below s cm sm Q T (mkF m pc' Ls (.int v :: St))) : Go p e below s cm sm Q T (mkF m pc Ls St) := by
  subst hp hv
  exact Go.st (fun t q => XS.bipush (g := mkF m pc Ls St) X.here hx rfl hd q) kk
theorem w_sipush (X : Stand p l e R s m args below meth c T locs cells slots) (hx : p.tables.exec = Jvm.exec) {i : Int} {v : Int32} (hd : decode c.code pc = .ok (.sipush i, 3)) (hp : pc + 3 = pc') (hv : (Int16.ofInt i).toInt32 = v)
    (kk : Go p e below s cm sm Q T (mkF m pc' Ls (.int v :: St))) : Go p e below s cm sm Q T (mkF m pc Ls St) := by
  subst hp hv
  exact Go.st (fun t q => XS.sipush (g := mkF m pc Ls St) X.here hx rfl hd q) kk
theorem w_lconst (X : Stand p l e R s m args below meth c T locs cells slots) (hx : p.tables.exec = Jvm.exec) {i : Fin 2} {v : Int64} (hd : decode c.code pc = .ok (.lconst i, 1)) (hp : pc + 1 = pc') (hv : Int64.ofNat i = v)
    (kk : Go p e below s cm sm Q T (mkF m pc' Ls (.long v :: St))) : Go p e below s cm sm Q T (mkF m pc Ls St) := by
  subst hp hv
  exact Go.st (fun t q => XS.lconst (g := mkF m pc Ls St) X.here hx rfl hd q) kk
theorem w_aconstNull (X : Stand p l e R s m args below meth c T locs cells slots) (hx : p.tables.exec = Jvm.exec)  (hd : decode c.code pc = .ok (.aconst_null, 1)) (hp : pc + 1 = pc')
    (kk : Go p e below s cm sm Q T (mkF m pc' Ls (.null :: St))) : Go p e below s cm sm Q T (mkF m pc Ls (St)) := by
  subst hp
  exact Go.st (fun t q => XS.aconstNull (g := mkF m pc Ls (St)) X.here hx rfl hd q) kk
theorem w_iadd (X : Stand p l e R s m args below meth c T locs cells slots) (hx : p.tables.exec = Jvm.exec) {x y : Int32} (hd : decode c.code pc = .ok (.iadd, 1)) (hp : pc + 1 = pc')
    (kk : Go p e below s cm sm Q T (mkF m pc' Ls (.int (x + y) :: St))) : Go p e below s cm sm Q T (mkF m pc Ls (.int y :: .int x :: St)) := by
  subst hp
  exact Go.st (fun t q => XS.iadd (g := mkF m pc Ls (.int y :: .int x :: St)) X.here hx rfl hd rfl q) kk
theorem w_ladd (X : Stand p l e R s m args below meth c T locs cells slots) (hx : p.tables.exec = Jvm.exec) {x y : Int64} (hd : decode c.code pc = .ok (.ladd, 1)) (hp : pc + 1 = pc')
    (kk : Go p e below s cm sm Q T (mkF m pc' Ls (.long (x + y) :: St))) : Go p e below s cm sm Q T (mkF m pc Ls (.long y :: .long x :: St)) := by
  subst hp
  exact Go.st (fun t q => XS.ladd (g := mkF m pc Ls (.long y :: .long x :: St)) X.here hx rfl hd rfl q) kk
theorem w_isub (X : Stand p l e R s m args below meth c T locs cells slots) (hx : p.tables.exec = Jvm.exec) {x y : Int32} (hd : decode c.code pc = .ok (.isub, 1)) (hp : pc + 1 = pc')
    (kk : Go p e below s cm sm Q T (mkF m pc' Ls (.int (x - y) :: St))) : Go p e below s cm sm Q T (mkF m pc Ls (.int y :: .int x :: St)) := by
  subst hp
  exact Go.st (fun t q => XS.isub (g := mkF m pc Ls (.int y :: .int x :: St)) X.here hx rfl hd rfl q) kk
theorem w_lsub (X : Stand p l e R s m args below meth c T locs cells slots) (hx : p.tables.exec = Jvm.exec) {x y : Int64} (hd : decode c.code pc = .ok (.lsub, 1)) (hp : pc + 1 = pc')
    (kk : Go p e below s cm sm Q T (mkF m pc' Ls (.long (x - y) :: St))) : Go p e below s cm sm Q T (mkF m pc Ls (.long y :: .long x :: St)) := by
  subst hp
  exact Go.st (fun t q => XS.lsub (g := mkF m pc Ls (.long y :: .long x :: St)) X.here hx rfl hd rfl q) kk
theorem w_imul (X : Stand p l e R s m args below meth c T locs cells slots) (hx : p.tables.exec = Jvm.exec) {x y : Int32} (hd : decode c.code pc = .ok (.imul, 1)) (hp : pc + 1 = pc')
    (kk : Go p e below s cm sm Q T (mkF m pc' Ls (.int (x * y) :: St))) : Go p e below s cm sm Q T (mkF m pc Ls (.int y :: .int x :: St)) := by
  subst hp
  exact Go.st (fun t q => XS.imul (g := mkF m pc Ls (.int y :: .int x :: St)) X.here hx rfl hd rfl q) kk
theorem w_lmul (X : Stand p l e R s m args below meth c T locs cells slots) (hx : p.tables.exec = Jvm.exec) {x y : Int64} (hd : decode c.code pc = .ok (.lmul, 1)) (hp : pc + 1 = pc')
    (kk : Go p e below s cm sm Q T (mkF m pc' Ls (.long (x * y) :: St))) : Go p e below s cm sm Q T (mkF m pc Ls (.long y :: .long x :: St)) := by
  subst hp
  exact Go.st (fun t q => XS.lmul (g := mkF m pc Ls (.long y :: .long x :: St)) X.here hx rfl hd rfl q) kk
theorem w_iand (X : Stand p l e R s m args below meth c T locs cells slots) (hx : p.tables.exec = Jvm.exec) {x y : Int32} (hd : decode c.code pc = .ok (.iand, 1)) (hp : pc + 1 = pc')
    (kk : Go p e below s cm sm Q T (mkF m pc' Ls (.int (x &&& y) :: St))) : Go p e below s cm sm Q T (mkF m pc Ls (.int y :: .int x :: St)) := by
  subst hp
  exact Go.st (fun t q => XS.iand (g := mkF m pc Ls (.int y :: .int x :: St)) X.here hx rfl hd rfl q) kk
theorem w_land (X : Stand p l e R s m args below meth c T locs cells slots) (hx : p.tables.exec = Jvm.exec) {x y : Int64} (hd : decode c.code pc = .ok (.land, 1)) (hp : pc + 1 = pc')
    (kk : Go p e below s cm sm Q T (mkF m pc' Ls (.long (x &&& y) :: St))) : Go p e below s cm sm Q T (mkF m pc Ls (.long y :: .long x :: St)) := by
  subst hp
  exact Go.st (fun t q => XS.land (g := mkF m pc Ls (.long y :: .long x :: St)) X.here hx rfl hd rfl q) kk
theorem w_ior (X : Stand p l e R s m args below meth c T locs cells slots) (hx : p.tables.exec = Jvm.exec) {x y : Int32} (hd : decode c.code pc = .ok (.ior, 1)) (hp : pc + 1 = pc')
    (kk : Go p e below s cm sm Q T (mkF m pc' Ls (.int (x ||| y) :: St))) : Go p e below s cm sm Q T (mkF m pc Ls (.int y :: .int x :: St)) := by
  subst hp
  exact Go.st (fun t q => XS.ior (g := mkF m pc Ls (.int y :: .int x :: St)) X.here hx rfl hd rfl q) kk
theorem w_lor (X : Stand p l e R s m args below meth c T locs cells slots) (hx : p.tables.exec = Jvm.exec) {x y : Int64} (hd : decode c.code pc = .ok (.lor, 1)) (hp : pc + 1 = pc')
    (kk : Go p e below s cm sm Q T (mkF m pc' Ls (.long (x ||| y) :: St))) : Go p e below s cm sm Q T (mkF m pc Ls (.long y :: .long x :: St)) := by
  subst hp
  exact Go.st (fun t q => XS.lor (g := mkF m pc Ls (.long y :: .long x :: St)) X.here hx rfl hd rfl q) kk
theorem w_ixor (X : Stand p l e R s m args below meth c T locs cells slots) (hx : p.tables.exec = Jvm.exec) {x y : Int32} (hd : decode c.code pc = .ok (.ixor, 1)) (hp : pc + 1 = pc')
    (kk : Go p e below s cm sm Q T (mkF m pc' Ls (.int (x ^^^ y) :: St))) : Go p e below s cm sm Q T (mkF m pc Ls (.int y :: .int x :: St)) := by
  subst hp
  exact Go.st (fun t q => XS.ixor (g := mkF m pc Ls (.int y :: .int x :: St)) X.here hx rfl hd rfl q) kk
theorem w_lxor (X : Stand p l e R s m args below meth c T locs cells slots) (hx : p.tables.exec = Jvm.exec) {x y : Int64} (hd : decode c.code pc = .ok (.lxor, 1)) (hp : pc + 1 = pc')
    (kk : Go p e below s cm sm Q T (mkF m pc' Ls (.long (x ^^^ y) :: St))) : Go p e below s cm sm Q T (mkF m pc Ls (.long y :: .long x :: St)) := by
  subst hp
  exact Go.st (fun t q => XS.lxor (g := mkF m pc Ls (.long y :: .long x :: St)) X.here hx rfl hd rfl q) kk
theorem w_idiv (X : Stand p l e R s m args below meth c T locs cells slots) (hx : p.tables.exec = Jvm.exec) {x y : Int32} (hd : decode c.code pc = .ok (.idiv, 1)) (hp : pc + 1 = pc') (hy : y ≠ 0)
    (kk : Go p e below s cm sm Q T (mkF m pc' Ls (.int (x / y) :: St))) : Go p e below s cm sm Q T (mkF m pc Ls (.int y :: .int x :: St)) := by
  subst hp
  exact Go.st (fun t q => XS.idiv (g := mkF m pc Ls (.int y :: .int x :: St)) X.here hx rfl hd rfl hy q) kk
theorem own_irem (x y : Int32) : x - x / y * y = x % y := by
  apply Int32.toInt_inj.mp
  have h : x.toInt - x.toInt.tdiv y.toInt * y.toInt = x.toInt.tmod y.toInt := by
    have := Int.mul_tdiv_add_tmod x.toInt y.toInt
    rw [Int.mul_comm]; omega
  have hr := (x % y).toInt_lt
  have hl := (x % y).le_toInt
  rw [Int32.toInt_mod] at hr hl
  rw [Int32.toInt_sub, Int32.toInt_mul, Int32.toInt_div, Int32.toInt_mod, Int.bmod_mul_bmod, Int.sub_bmod_bmod, h, Jvm.Kit.bmod32 (by omega) (by omega)]
theorem w_irem (X : Stand p l e R s m args below meth c T locs cells slots) (hx : p.tables.exec = Jvm.exec) {x y : Int32} (hd : decode c.code pc = .ok (.irem, 1)) (hp : pc + 1 = pc') (hy : y ≠ 0)
    (kk : Go p e below s cm sm Q T (mkF m pc' Ls (.int (x % y) :: St))) : Go p e below s cm sm Q T (mkF m pc Ls (.int y :: .int x :: St)) := by
  subst hp
  rw [← own_irem] at kk
  exact Go.st (fun t q => XS.irem (g := mkF m pc Ls (.int y :: .int x :: St)) X.here hx rfl hd rfl hy q) kk
theorem w_ldiv (X : Stand p l e R s m args below meth c T locs cells slots) (hx : p.tables.exec = Jvm.exec) {x y : Int64} (hd : decode c.code pc = .ok (.ldiv, 1)) (hp : pc + 1 = pc') (hy : y ≠ 0)
    (kk : Go p e below s cm sm Q T (mkF m pc' Ls (.long (x / y) :: St))) : Go p e below s cm sm Q T (mkF m pc Ls (.long y :: .long x :: St)) := by
  subst hp
  exact Go.st (fun t q => XS.ldiv (g := mkF m pc Ls (.long y :: .long x :: St)) X.here hx rfl hd rfl hy q) kk
theorem own_lrem (x y : Int64) : x - x / y * y = x % y := by
  apply Int64.toInt_inj.mp
  have h : x.toInt - x.toInt.tdiv y.toInt * y.toInt = x.toInt.tmod y.toInt := by
    have := Int.mul_tdiv_add_tmod x.toInt y.toInt
    rw [Int.mul_comm]; omega
  have hr := (x % y).toInt_lt
  have hl := (x % y).le_toInt
  rw [Int64.toInt_mod] at hr hl
  rw [Int64.toInt_sub, Int64.toInt_mul, Int64.toInt_div, Int64.toInt_mod, Int.bmod_mul_bmod, Int.sub_bmod_bmod, h, Jvm.Kit.bmod64 (by omega) (by omega)]
theorem w_lrem (X : Stand p l e R s m args below meth c T locs cells slots) (hx : p.tables.exec = Jvm.exec) {x y : Int64} (hd : decode c.code pc = .ok (.lrem, 1)) (hp : pc + 1 = pc') (hy : y ≠ 0)
    (kk : Go p e below s cm sm Q T (mkF m pc' Ls (.long (x % y) :: St))) : Go p e below s cm sm Q T (mkF m pc Ls (.long y :: .long x :: St)) := by
  subst hp
  rw [← own_lrem] at kk
  exact Go.st (fun t q => XS.lrem (g := mkF m pc Ls (.long y :: .long x :: St)) X.here hx rfl hd rfl hy q) kk
theorem w_ineg (X : Stand p l e R s m args below meth c T locs cells slots) (hx : p.tables.exec = Jvm.exec) {x : Int32} (hd : decode c.code pc = .ok (.ineg, 1)) (hp : pc + 1 = pc')
    (kk : Go p e below s cm sm Q T (mkF m pc' Ls (.int (-x) :: St))) : Go p e below s cm sm Q T (mkF m pc Ls (.int x :: St)) := by
  subst hp
  exact Go.st (fun t q => XS.ineg (g := mkF m pc Ls (.int x :: St)) X.here hx rfl hd rfl q) kk
theorem w_lneg (X : Stand p l e R s m args below meth c T locs cells slots) (hx : p.tables.exec = Jvm.exec) {x : Int64} (hd : decode c.code pc = .ok (.lneg, 1)) (hp : pc + 1 = pc')
    (kk : Go p e below s cm sm Q T (mkF m pc' Ls (.long (-x) :: St))) : Go p e below s cm sm Q T (mkF m pc Ls (.long x :: St)) := by
  subst hp
  exact Go.st (fun t q => XS.lneg (g := mkF m pc Ls (.long x :: St)) X.here hx rfl hd rfl q) kk
theorem w_i2l (X : Stand p l e R s m args below meth c T locs cells slots) (hx : p.tables.exec = Jvm.exec) {x : Int32} (hd : decode c.code pc = .ok (.i2l, 1)) (hp : pc + 1 = pc')
    (kk : Go p e below s cm sm Q T (mkF m pc' Ls (.long x.toInt64 :: St))) : Go p e below s cm sm Q T (mkF m pc Ls (.int x :: St)) := by
  subst hp
  exact Go.st (fun t q => XS.i2l (g := mkF m pc Ls (.int x :: St)) X.here hx rfl hd rfl q) kk
theorem w_l2i (X : Stand p l e R s m args below meth c T locs cells slots) (hx : p.tables.exec = Jvm.exec) {x : Int64} (hd : decode c.code pc = .ok (.l2i, 1)) (hp : pc + 1 = pc')
    (kk : Go p e below s cm sm Q T (mkF m pc' Ls (.int x.toInt32 :: St))) : Go p e below s cm sm Q T (mkF m pc Ls (.long x :: St)) := by
  subst hp
  exact Go.st (fun t q => XS.l2i (g := mkF m pc Ls (.long x :: St)) X.here hx rfl hd rfl q) kk
theorem w_i2b (X : Stand p l e R s m args below meth c T locs cells slots) (hx : p.tables.exec = Jvm.exec) {x : Int32} (hd : decode c.code pc = .ok (.i2b, 1)) (hp : pc + 1 = pc')
    (kk : Go p e below s cm sm Q T (mkF m pc' Ls (.int x.toInt8.toInt32 :: St))) : Go p e below s cm sm Q T (mkF m pc Ls (.int x :: St)) := by
  subst hp
  exact Go.st (fun t q => XS.i2b (g := mkF m pc Ls (.int x :: St)) X.here hx rfl hd rfl q) kk
theorem w_i2c (X : Stand p l e R s m args below meth c T locs cells slots) (hx : p.tables.exec = Jvm.exec) {x : Int32} (hd : decode c.code pc = .ok (.i2c, 1)) (hp : pc + 1 = pc')
    (kk : Go p e below s cm sm Q T (mkF m pc' Ls (.int x.toUInt32.toUInt16.toUInt32.toInt32 :: St))) : Go p e below s cm sm Q T (mkF m pc Ls (.int x :: St)) := by
  subst hp
  exact Go.st (fun t q => XS.i2c (g := mkF m pc Ls (.int x :: St)) X.here hx rfl hd rfl q) kk
theorem w_ishl (X : Stand p l e R s m args below meth c T locs cells slots) (hx : p.tables.exec = Jvm.exec) {x y : Int32} (hd : decode c.code pc = .ok (.ishl, 1)) (hp : pc + 1 = pc')
    (kk : Go p e below s cm sm Q T (mkF m pc' Ls (.int (x <<< (y &&& 31)) :: St))) : Go p e below s cm sm Q T (mkF m pc Ls (.int y :: .int x :: St)) := by
  subst hp
  exact Go.st (fun t q => XS.ishl (g := mkF m pc Ls (.int y :: .int x :: St)) X.here hx rfl hd rfl q) kk
theorem w_ishr (X : Stand p l e R s m args below meth c T locs cells slots) (hx : p.tables.exec = Jvm.exec) {x y : Int32} (hd : decode c.code pc = .ok (.ishr, 1)) (hp : pc + 1 = pc')
    (kk : Go p e below s cm sm Q T (mkF m pc' Ls (.int (x >>> (y &&& 31)) :: St))) : Go p e below s cm sm Q T (mkF m pc Ls (.int y :: .int x :: St)) := by
  subst hp
  exact Go.st (fun t q => XS.ishr (g := mkF m pc Ls (.int y :: .int x :: St)) X.here hx rfl hd rfl q) kk
theorem w_iushr (X : Stand p l e R s m args below meth c T locs cells slots) (hx : p.tables.exec = Jvm.exec) {x y : Int32} (hd : decode c.code pc = .ok (.iushr, 1)) (hp : pc + 1 = pc')
    (kk : Go p e below s cm sm Q T (mkF m pc' Ls (.int (jushr x y) :: St))) : Go p e below s cm sm Q T (mkF m pc Ls (.int y :: .int x :: St)) := by
  subst hp
  exact Go.st (fun t q => XS.iushr (g := mkF m pc Ls (.int y :: .int x :: St)) X.here hx rfl hd rfl q) kk
theorem w_lshl (X : Stand p l e R s m args below meth c T locs cells slots) (hx : p.tables.exec = Jvm.exec) {x : Int64} {y : Int32} (hd : decode c.code pc = .ok (.lshl, 1)) (hp : pc + 1 = pc')
    (kk : Go p e below s cm sm Q T (mkF m pc' Ls (.long (x <<< (y &&& 0x3f).toInt64) :: St))) : Go p e below s cm sm Q T (mkF m pc Ls (.int y :: .long x :: St)) := by
  subst hp
  exact Go.st (fun t q => XS.lshl (g := mkF m pc Ls (.int y :: .long x :: St)) X.here hx rfl hd rfl q) kk
theorem w_lshr (X : Stand p l e R s m args below meth c T locs cells slots) (hx : p.tables.exec = Jvm.exec) {x : Int64} {y : Int32} (hd : decode c.code pc = .ok (.lshr, 1)) (hp : pc + 1 = pc')
    (kk : Go p e below s cm sm Q T (mkF m pc' Ls (.long (x >>> (y &&& 0x3f).toInt64) :: St))) : Go p e below s cm sm Q T (mkF m pc Ls (.int y :: .long x :: St)) := by
  subst hp
  exact Go.st (fun t q => XS.lshr (g := mkF m pc Ls (.int y :: .long x :: St)) X.here hx rfl hd rfl q) kk
theorem w_lushr (X : Stand p l e R s m args below meth c T locs cells slots) (hx : p.tables.exec = Jvm.exec) {x : Int64} {y : Int32} (hd : decode c.code pc = .ok (.lushr, 1)) (hp : pc + 1 = pc')
    (kk : Go p e below s cm sm Q T (mkF m pc' Ls (.long (jlushr x y) :: St))) : Go p e below s cm sm Q T (mkF m pc Ls (.int y :: .long x :: St)) := by
  subst hp
  exact Go.st (fun t q => XS.lushr (g := mkF m pc Ls (.int y :: .long x :: St)) X.here hx rfl hd rfl q) kk
theorem w_lcmp (X : Stand p l e R s m args below meth c T locs cells slots) (hx : p.tables.exec = Jvm.exec) {x y : Int64} (hd : decode c.code pc = .ok (.lcmp, 1)) (hp : pc + 1 = pc')
    (kk : Go p e below s cm sm Q T (mkF m pc' Ls (.int (lcmpW x y) :: St))) : Go p e below s cm sm Q T (mkF m pc Ls (.long y :: .long x :: St)) := by
  subst hp
  exact Go.st (fun t q => XS.lcmp (g := mkF m pc Ls (.long y :: .long x :: St)) X.here hx rfl hd rfl q) kk
theorem w_dup (X : Stand p l e R s m args below meth c T locs cells slots) (hx : p.tables.exec = Jvm.exec) {x : Value} (hd : decode c.code pc = .ok (.dup, 1)) (hp : pc + 1 = pc') (hv : x.category = 1)
    (kk : Go p e below s cm sm Q T (mkF m pc' Ls (x :: x :: St))) : Go p e below s cm sm Q T (mkF m pc Ls (x :: St)) := by
  subst hp
  exact Go.st (fun t q => XS.dup (g := mkF m pc Ls (x :: St)) X.here hx rfl hd rfl hv q) kk
theorem w_pop (X : Stand p l e R s m args below meth c T locs cells slots) (hx : p.tables.exec = Jvm.exec) {x : Value} (hd : decode c.code pc = .ok (.pop, 1)) (hp : pc + 1 = pc') (hv : x.category = 1)
    (kk : Go p e below s cm sm Q T (mkF m pc' Ls (St))) : Go p e below s cm sm Q T (mkF m pc Ls (x :: St)) := by
  subst hp
  exact Go.st (fun t q => XS.pop (g := mkF m pc Ls (x :: St)) X.here hx rfl hd rfl hv q) kk
theorem w_dupX1 (X : Stand p l e R s m args below meth c T locs cells slots) (hx : p.tables.exec = Jvm.exec) {x y : Value} (hd : decode c.code pc = .ok (.dup_x1, 1)) (hp : pc + 1 = pc') (hv : x.category = 1) (hv' : y.category = 1)
    (kk : Go p e below s cm sm Q T (mkF m pc' Ls (x :: y :: x :: St))) : Go p e below s cm sm Q T (mkF m pc Ls (x :: y :: St)) := by
  subst hp
  exact Go.st (fun t q => XS.dupX1 (g := mkF m pc Ls (x :: y :: St)) X.here hx rfl hd rfl hv hv' q) kk
theorem w_iinc (X : Stand p l e R s m args below meth c T locs cells slots) (hx : p.tables.exec = Jvm.exec) {k : Nat} {cst : Int} {x w : Int32} (hd : decode c.code pc = .ok (.iinc k cst, 3)) (hp : pc + 3 = pc') (hl : Ls[k]? = some (.val (.int x))) (hv : Int32.ofInt cst = w) (hl' : storeLocals Ls k (.int (x + w)) = some Ls')
    (kk : Go p e below s cm sm Q T (mkF m pc' Ls' St)) : Go p e below s cm sm Q T (mkF m pc Ls St) := by
  subst hp hv
  exact Go.st (fun t q => XS.iinc (g := mkF m pc Ls St) X.here hx rfl hd hl hl' q) kk
theorem w_goto (X : Stand p l e R s m args below meth c T locs cells slots) (hx : p.tables.exec = Jvm.exec) {o : Int} (hd : decode c.code pc = .ok (.goto o, 3)) (ho : 0 ≤ (pc : Int) + o) (hp : ((pc : Int) + o).toNat = pc')
    (kk : Go p e below s cm sm Q T (mkF m pc' Ls St)) : Go p e below s cm sm Q T (mkF m pc Ls St) :=
  Go.st (fun t q => XS.goto (g := mkF m pc Ls St) X.here hx rfl (pc0 := pc) (pc' := pc') rfl hd ho hp q) kk
theorem w_icmp0 (X : Stand p l e R s m args below meth c T locs cells slots) (hx : p.tables.exec = Jvm.exec) {cd : ClassFile.Cond} {x y : Int32} {o : Int} {pt pf : Nat} (hd : decode c.code pc = .ok (.if_icmp cd o, 3)) (hf : pc + 3 = pf) (ho : 0 ≤ (pc : Int) + o) (hp : ((pc : Int) + o).toNat = pt)
    (kT : if_icmp.holds cd x y = true → Go p e below s cm sm Q T (mkF m pt Ls St)) (kF : if_icmp.holds cd x y = false → Go p e below s cm sm Q T (mkF m pf Ls St)) : Go p e below s cm sm Q T (mkF m pc Ls (.int y :: .int x :: St)) := by
  subst hf
  cases hc : if_icmp.holds cd x y with
  | true => exact Go.st (fun t q => XS.icmpYes (g := mkF m pc Ls (.int y :: .int x :: St)) X.here hx rfl (pc0 := pc) (pc' := pt) rfl hd rfl hc ho hp q) (kT hc)
  | false => exact Go.st (fun t q => XS.icmpNo (g := mkF m pc Ls (.int y :: .int x :: St)) X.here hx rfl hd rfl hc q) (kF hc)
theorem w_if0 (X : Stand p l e R s m args below meth c T locs cells slots) (hx : p.tables.exec = Jvm.exec) {cd : ClassFile.Cond} {x : Int32} {o : Int} {pt pf : Nat} (hd : decode c.code pc = .ok (.ifCond cd o, 3)) (hf : pc + 3 = pf) (ho : 0 ≤ (pc : Int) + o) (hp : ((pc : Int) + o).toNat = pt)
    (kT : if_icmp.holds cd x 0 = true → Go p e below s cm sm Q T (mkF m pt Ls St)) (kF : if_icmp.holds cd x 0 = false → Go p e below s cm sm Q T (mkF m pf Ls St)) : Go p e below s cm sm Q T (mkF m pc Ls (.int x :: St)) := by
  subst hf
  cases hc : if_icmp.holds cd x 0 with
  | true => exact Go.st (fun t q => XS.ifYes (g := mkF m pc Ls (.int x :: St)) X.here hx rfl (pc0 := pc) (pc' := pt) rfl hd rfl ((if0 _ _).trans hc) ho hp q) (kT hc)
  | false => exact Go.st (fun t q => XS.ifNo (g := mkF m pc Ls (.int x :: St)) X.here hx rfl hd rfl ((if0 _ _).trans hc) q) (kF hc)
theorem h_lt {x y : Int32} : (if_icmp.holds .lt x y = true → x < y) ∧ (if_icmp.holds .lt x y = false → ¬ x < y) := ⟨fun h => Decidable.byContradiction fun q => by simp [(flt q).1] at h, fun h q => by simp [(tlt q).1] at h⟩
theorem h_ge {x y : Int32} : (if_icmp.holds .ge x y = true → ¬ x < y) ∧ (if_icmp.holds .ge x y = false → x < y) := ⟨fun h q => by simp [(tlt q).2.1] at h, fun h => Decidable.byContradiction fun q => by simp [(flt q).2.1] at h⟩
theorem h_gt {x y : Int32} : (if_icmp.holds .gt x y = true → y < x) ∧ (if_icmp.holds .gt x y = false → ¬ y < x) := ⟨fun h => Decidable.byContradiction fun q => by simp [(flt q).2.2.1] at h, fun h q => by simp [(tlt q).2.2.1] at h⟩
theorem h_le {x y : Int32} : (if_icmp.holds .le x y = true → ¬ y < x) ∧ (if_icmp.holds .le x y = false → y < x) := ⟨fun h q => by simp [(tlt q).2.2.2] at h, fun h => Decidable.byContradiction fun q => by simp [(flt q).2.2.2] at h⟩
theorem h_eq {x y : Int32} : (if_icmp.holds .eq x y = true → x = y) ∧ (if_icmp.holds .eq x y = false → ¬ x = y) := ⟨fun h => Decidable.byContradiction fun q => by simp [(feq q).1] at h, fun h q => by simp [(teq q).1] at h⟩
theorem h_ne {x y : Int32} : (if_icmp.holds .ne x y = true → ¬ x = y) ∧ (if_icmp.holds .ne x y = false → x = y) := ⟨fun h q => by simp [(teq q).2] at h, fun h => Decidable.byContradiction fun q => by simp [(feq q).2] at h⟩
theorem w_icmp_lt (X : Stand p l e R s m args below meth c T locs cells slots) (hx : p.tables.exec = Jvm.exec) {x y : Int32} {o : Int} {pt pf : Nat} (hd : decode c.code pc = .ok (.if_icmp .lt o, 3)) (hf : pc + 3 = pf) (ho : 0 ≤ (pc : Int) + o) (hp : ((pc : Int) + o).toNat = pt)
    (kT : x < y → Go p e below s cm sm Q T (mkF m pt Ls St)) (kF : ¬ (x < y) → Go p e below s cm sm Q T (mkF m pf Ls St)) : Go p e below s cm sm Q T (mkF m pc Ls (.int y :: .int x :: St)) :=
  w_icmp0 X hx hd hf ho hp (fun h => kT (h_lt.1 h)) (fun h => kF (h_lt.2 h))
theorem w_if_lt (X : Stand p l e R s m args below meth c T locs cells slots) (hx : p.tables.exec = Jvm.exec) {x : Int32} {o : Int} {pt pf : Nat} (hd : decode c.code pc = .ok (.ifCond .lt o, 3)) (hf : pc + 3 = pf) (ho : 0 ≤ (pc : Int) + o) (hp : ((pc : Int) + o).toNat = pt)
    (kT : x < 0 → Go p e below s cm sm Q T (mkF m pt Ls St)) (kF : ¬ (x < 0) → Go p e below s cm sm Q T (mkF m pf Ls St)) : Go p e below s cm sm Q T (mkF m pc Ls (.int x :: St)) :=
  w_if0 X hx hd hf ho hp (fun h => kT (h_lt.1 h)) (fun h => kF (h_lt.2 h))
theorem w_ifL_lt (X : Stand p l e R s m args below meth c T locs cells slots) (hx : p.tables.exec = Jvm.exec) {x y : Int64} {o : Int} {pt pf : Nat} (hd : decode c.code pc = .ok (.ifCond .lt o, 3)) (hf : pc + 3 = pf) (ho : 0 ≤ (pc : Int) + o) (hp : ((pc : Int) + o).toNat = pt)
    (kT : x < y → Go p e below s cm sm Q T (mkF m pt Ls St)) (kF : ¬ (x < y) → Go p e below s cm sm Q T (mkF m pf Ls St)) : Go p e below s cm sm Q T (mkF m pc Ls (.int (lcmpW x y) :: St)) :=
  w_if_lt X hx hd hf ho hp (fun q => kT ((lw_lt x y).1 q)) (fun q => kF (fun r => q ((lw_lt x y).2 r)))
theorem w_icmp_ge (X : Stand p l e R s m args below meth c T locs cells slots) (hx : p.tables.exec = Jvm.exec) {x y : Int32} {o : Int} {pt pf : Nat} (hd : decode c.code pc = .ok (.if_icmp .ge o, 3)) (hf : pc + 3 = pf) (ho : 0 ≤ (pc : Int) + o) (hp : ((pc : Int) + o).toNat = pt)
    (kT : ¬ (x < y) → Go p e below s cm sm Q T (mkF m pt Ls St)) (kF : x < y → Go p e below s cm sm Q T (mkF m pf Ls St)) : Go p e below s cm sm Q T (mkF m pc Ls (.int y :: .int x :: St)) :=
  w_icmp0 X hx hd hf ho hp (fun h => kT (h_ge.1 h)) (fun h => kF (h_ge.2 h))
theorem w_if_ge (X : Stand p l e R s m args below meth c T locs cells slots) (hx : p.tables.exec = Jvm.exec) {x : Int32} {o : Int} {pt pf : Nat} (hd : decode c.code pc = .ok (.ifCond .ge o, 3)) (hf : pc + 3 = pf) (ho : 0 ≤ (pc : Int) + o) (hp : ((pc : Int) + o).toNat = pt)
    (kT : ¬ (x < 0) → Go p e below s cm sm Q T (mkF m pt Ls St)) (kF : x < 0 → Go p e below s cm sm Q T (mkF m pf Ls St)) : Go p e below s cm sm Q T (mkF m pc Ls (.int x :: St)) :=
  w_if0 X hx hd hf ho hp (fun h => kT (h_ge.1 h)) (fun h => kF (h_ge.2 h))
theorem w_ifL_ge (X : Stand p l e R s m args below meth c T locs cells slots) (hx : p.tables.exec = Jvm.exec) {x y : Int64} {o : Int} {pt pf : Nat} (hd : decode c.code pc = .ok (.ifCond .ge o, 3)) (hf : pc + 3 = pf) (ho : 0 ≤ (pc : Int) + o) (hp : ((pc : Int) + o).toNat = pt)
    (kT : ¬ (x < y) → Go p e below s cm sm Q T (mkF m pt Ls St)) (kF : x < y → Go p e below s cm sm Q T (mkF m pf Ls St)) : Go p e below s cm sm Q T (mkF m pc Ls (.int (lcmpW x y) :: St)) :=
  w_if_ge X hx hd hf ho hp (fun q => kT (fun r => q ((lw_lt x y).2 r))) (fun q => kF ((lw_lt x y).1 q))
theorem w_icmp_gt (X : Stand p l e R s m args below meth c T locs cells slots) (hx : p.tables.exec = Jvm.exec) {x y : Int32} {o : Int} {pt pf : Nat} (hd : decode c.code pc = .ok (.if_icmp .gt o, 3)) (hf : pc + 3 = pf) (ho : 0 ≤ (pc : Int) + o) (hp : ((pc : Int) + o).toNat = pt)
    (kT : y < x → Go p e below s cm sm Q T (mkF m pt Ls St)) (kF : ¬ (y < x) → Go p e below s cm sm Q T (mkF m pf Ls St)) : Go p e below s cm sm Q T (mkF m pc Ls (.int y :: .int x :: St)) :=
  w_icmp0 X hx hd hf ho hp (fun h => kT (h_gt.1 h)) (fun h => kF (h_gt.2 h))
theorem w_if_gt (X : Stand p l e R s m args below meth c T locs cells slots) (hx : p.tables.exec = Jvm.exec) {x : Int32} {o : Int} {pt pf : Nat} (hd : decode c.code pc = .ok (.ifCond .gt o, 3)) (hf : pc + 3 = pf) (ho : 0 ≤ (pc : Int) + o) (hp : ((pc : Int) + o).toNat = pt)
    (kT : 0 < x → Go p e below s cm sm Q T (mkF m pt Ls St)) (kF : ¬ (0 < x) → Go p e below s cm sm Q T (mkF m pf Ls St)) : Go p e below s cm sm Q T (mkF m pc Ls (.int x :: St)) :=
  w_if0 X hx hd hf ho hp (fun h => kT (h_gt.1 h)) (fun h => kF (h_gt.2 h))
theorem w_ifL_gt (X : Stand p l e R s m args below meth c T locs cells slots) (hx : p.tables.exec = Jvm.exec) {x y : Int64} {o : Int} {pt pf : Nat} (hd : decode c.code pc = .ok (.ifCond .gt o, 3)) (hf : pc + 3 = pf) (ho : 0 ≤ (pc : Int) + o) (hp : ((pc : Int) + o).toNat = pt)
    (kT : y < x → Go p e below s cm sm Q T (mkF m pt Ls St)) (kF : ¬ (y < x) → Go p e below s cm sm Q T (mkF m pf Ls St)) : Go p e below s cm sm Q T (mkF m pc Ls (.int (lcmpW x y) :: St)) :=
  w_if_gt X hx hd hf ho hp (fun q => kT ((lw_gt x y).1 q)) (fun q => kF (fun r => q ((lw_gt x y).2 r)))
theorem w_icmp_le (X : Stand p l e R s m args below meth c T locs cells slots) (hx : p.tables.exec = Jvm.exec) {x y : Int32} {o : Int} {pt pf : Nat} (hd : decode c.code pc = .ok (.if_icmp .le o, 3)) (hf : pc + 3 = pf) (ho : 0 ≤ (pc : Int) + o) (hp : ((pc : Int) + o).toNat = pt)
    (kT : ¬ (y < x) → Go p e below s cm sm Q T (mkF m pt Ls St)) (kF : y < x → Go p e below s cm sm Q T (mkF m pf Ls St)) : Go p e below s cm sm Q T (mkF m pc Ls (.int y :: .int x :: St)) :=
  w_icmp0 X hx hd hf ho hp (fun h => kT (h_le.1 h)) (fun h => kF (h_le.2 h))
theorem w_if_le (X : Stand p l e R s m args below meth c T locs cells slots) (hx : p.tables.exec = Jvm.exec) {x : Int32} {o : Int} {pt pf : Nat} (hd : decode c.code pc = .ok (.ifCond .le o, 3)) (hf : pc + 3 = pf) (ho : 0 ≤ (pc : Int) + o) (hp : ((pc : Int) + o).toNat = pt)
    (kT : ¬ (0 < x) → Go p e below s cm sm Q T (mkF m pt Ls St)) (kF : 0 < x → Go p e below s cm sm Q T (mkF m pf Ls St)) : Go p e below s cm sm Q T (mkF m pc Ls (.int x :: St)) :=
  w_if0 X hx hd hf ho hp (fun h => kT (h_le.1 h)) (fun h => kF (h_le.2 h))
theorem w_ifL_le (X : Stand p l e R s m args below meth c T locs cells slots) (hx : p.tables.exec = Jvm.exec) {x y : Int64} {o : Int} {pt pf : Nat} (hd : decode c.code pc = .ok (.ifCond .le o, 3)) (hf : pc + 3 = pf) (ho : 0 ≤ (pc : Int) + o) (hp : ((pc : Int) + o).toNat = pt)
    (kT : ¬ (y < x) → Go p e below s cm sm Q T (mkF m pt Ls St)) (kF : y < x → Go p e below s cm sm Q T (mkF m pf Ls St)) : Go p e below s cm sm Q T (mkF m pc Ls (.int (lcmpW x y) :: St)) :=
  w_if_le X hx hd hf ho hp (fun q => kT (fun r => q ((lw_gt x y).2 r))) (fun q => kF ((lw_gt x y).1 q))
theorem w_icmp_eq (X : Stand p l e R s m args below meth c T locs cells slots) (hx : p.tables.exec = Jvm.exec) {x y : Int32} {o : Int} {pt pf : Nat} (hd : decode c.code pc = .ok (.if_icmp .eq o, 3)) (hf : pc + 3 = pf) (ho : 0 ≤ (pc : Int) + o) (hp : ((pc : Int) + o).toNat = pt)
    (kT : x = y → Go p e below s cm sm Q T (mkF m pt Ls St)) (kF : ¬ (x = y) → Go p e below s cm sm Q T (mkF m pf Ls St)) : Go p e below s cm sm Q T (mkF m pc Ls (.int y :: .int x :: St)) :=
  w_icmp0 X hx hd hf ho hp (fun h => kT (h_eq.1 h)) (fun h => kF (h_eq.2 h))
theorem w_if_eq (X : Stand p l e R s m args below meth c T locs cells slots) (hx : p.tables.exec = Jvm.exec) {x : Int32} {o : Int} {pt pf : Nat} (hd : decode c.code pc = .ok (.ifCond .eq o, 3)) (hf : pc + 3 = pf) (ho : 0 ≤ (pc : Int) + o) (hp : ((pc : Int) + o).toNat = pt)
    (kT : x = 0 → Go p e below s cm sm Q T (mkF m pt Ls St)) (kF : ¬ (x = 0) → Go p e below s cm sm Q T (mkF m pf Ls St)) : Go p e below s cm sm Q T (mkF m pc Ls (.int x :: St)) :=
  w_if0 X hx hd hf ho hp (fun h => kT (h_eq.1 h)) (fun h => kF (h_eq.2 h))
theorem w_ifL_eq (X : Stand p l e R s m args below meth c T locs cells slots) (hx : p.tables.exec = Jvm.exec) {x y : Int64} {o : Int} {pt pf : Nat} (hd : decode c.code pc = .ok (.ifCond .eq o, 3)) (hf : pc + 3 = pf) (ho : 0 ≤ (pc : Int) + o) (hp : ((pc : Int) + o).toNat = pt)
    (kT : x = y → Go p e below s cm sm Q T (mkF m pt Ls St)) (kF : ¬ (x = y) → Go p e below s cm sm Q T (mkF m pf Ls St)) : Go p e below s cm sm Q T (mkF m pc Ls (.int (lcmpW x y) :: St)) :=
  w_if_eq X hx hd hf ho hp (fun q => kT ((lw_eq x y).1 q)) (fun q => kF (fun r => q ((lw_eq x y).2 r)))
theorem w_icmp_ne (X : Stand p l e R s m args below meth c T locs cells slots) (hx : p.tables.exec = Jvm.exec) {x y : Int32} {o : Int} {pt pf : Nat} (hd : decode c.code pc = .ok (.if_icmp .ne o, 3)) (hf : pc + 3 = pf) (ho : 0 ≤ (pc : Int) + o) (hp : ((pc : Int) + o).toNat = pt)
    (kT : ¬ (x = y) → Go p e below s cm sm Q T (mkF m pt Ls St)) (kF : x = y → Go p e below s cm sm Q T (mkF m pf Ls St)) : Go p e below s cm sm Q T (mkF m pc Ls (.int y :: .int x :: St)) :=
  w_icmp0 X hx hd hf ho hp (fun h => kT (h_ne.1 h)) (fun h => kF (h_ne.2 h))
theorem w_if_ne (X : Stand p l e R s m args below meth c T locs cells slots) (hx : p.tables.exec = Jvm.exec) {x : Int32} {o : Int} {pt pf : Nat} (hd : decode c.code pc = .ok (.ifCond .ne o, 3)) (hf : pc + 3 = pf) (ho : 0 ≤ (pc : Int) + o) (hp : ((pc : Int) + o).toNat = pt)
    (kT : ¬ (x = 0) → Go p e below s cm sm Q T (mkF m pt Ls St)) (kF : x = 0 → Go p e below s cm sm Q T (mkF m pf Ls St)) : Go p e below s cm sm Q T (mkF m pc Ls (.int x :: St)) :=
  w_if0 X hx hd hf ho hp (fun h => kT (h_ne.1 h)) (fun h => kF (h_ne.2 h))
theorem w_ifL_ne (X : Stand p l e R s m args below meth c T locs cells slots) (hx : p.tables.exec = Jvm.exec) {x y : Int64} {o : Int} {pt pf : Nat} (hd : decode c.code pc = .ok (.ifCond .ne o, 3)) (hf : pc + 3 = pf) (ho : 0 ≤ (pc : Int) + o) (hp : ((pc : Int) + o).toNat = pt)
    (kT : ¬ (x = y) → Go p e below s cm sm Q T (mkF m pt Ls St)) (kF : x = y → Go p e below s cm sm Q T (mkF m pf Ls St)) : Go p e below s cm sm Q T (mkF m pc Ls (.int (lcmpW x y) :: St)) :=
  w_if_ne X hx hd hf ho hp (fun q => kT (fun r => q ((lw_eq x y).2 r))) (fun q => kF ((lw_eq x y).1 q))
theorem w_ldc (X : Stand p l e R s m args below meth c T locs cells slots) (hx : p.tables.exec = Jvm.exec) (hZ : Z.Warmed39 s.vm) {own : String} {index : Nat} {v : Int32} (hown : s.vm.findClass own = some m.cls) (w : (Jvm.Cond.constant own index v).before a0 Z = true) (hd : decode c.code pc = .ok (.ldc index, 2)) (hp : pc + 2 = pc')
    (kk : Go p e below s cm sm Q T (mkF m pc' Ls (.int v :: St))) : Go p e below s cm sm Q T (mkF m pc Ls St) := by
  subst hp
  exact Go.st (fun t q => X.ldcInt hx hown (mvT hZ w) (g := mkF m pc Ls St) rfl hd t q) kk
theorem w_ldcw (X : Stand p l e R s m args below meth c T locs cells slots) (hx : p.tables.exec = Jvm.exec) (hZ : Z.Warmed39 s.vm) {own : String} {index : Nat} {v : Int32} (hown : s.vm.findClass own = some m.cls) (w : (Jvm.Cond.constant own index v).before a0 Z = true) (hd : decode c.code pc = .ok (.ldc_w index, 3)) (hp : pc + 3 = pc')
    (kk : Go p e below s cm sm Q T (mkF m pc' Ls (.int v :: St))) : Go p e below s cm sm Q T (mkF m pc Ls St) := by
  subst hp
  exact Go.st (fun t q => X.ldcWI hx hown (mvT hZ w) (g := mkF m pc Ls St) rfl hd q) kk
theorem w_ldc2 (X : Stand p l e R s m args below meth c T locs cells slots) (hx : p.tables.exec = Jvm.exec) (hZ : Z.Warmed39 s.vm) {own : String} {index : Nat} {v : Int64} (hown : s.vm.findClass own = some m.cls) (w : (Jvm.Cond.constantLong own index v).before a0 Z = true) (hd : decode c.code pc = .ok (.ldc2_w index, 3)) (hp : pc + 3 = pc')
    (kk : Go p e below s cm sm Q T (mkF m pc' Ls (.long v :: St))) : Go p e below s cm sm Q T (mkF m pc Ls St) := by
  subst hp
  exact Go.st (fun t q => X.ldc2Long hx hown (mvT hZ w) (g := mkF m pc Ls St) rfl hd t q) kk
theorem w_retZ (X : Stand p l e R s m args below meth c T locs cells slots) (hx : p.tables.exec = Jvm.exec) (hret : meth.sig.returnType = some .boolean) (hlk : meth.locks = false) {z : Int32} (hd : decode c.code pc = .ok (.ireturn, 1)) (hc : cells ≤ cm) (hs : slots ≤ sm) (hQ : Q (some (.int (nar .boolean z))) T.heap locs) : Go p e below s cm sm Q T (mkF m pc Ls (.int z :: St)) := by
  obtain ⟨fs, hr, hrun, hended, hW, hsame⟩ := X.leave (v := some (.int (nar .boolean z))) (fun h => by rw [hret] at h; cases h) hlk
  exact ⟨_, _, retN X hx (t := .boolean) hret (by simp) hd hr, hrun, hended, _, _, rfl, hQ, ⟨_, rfl⟩, hW, hsame.mono hc hs⟩
theorem w_retB (X : Stand p l e R s m args below meth c T locs cells slots) (hx : p.tables.exec = Jvm.exec) (hret : meth.sig.returnType = some .byte) (hlk : meth.locks = false) {z : Int32} (hd : decode c.code pc = .ok (.ireturn, 1)) (hc : cells ≤ cm) (hs : slots ≤ sm) (hQ : Q (some (.int (nar .byte z))) T.heap locs) : Go p e below s cm sm Q T (mkF m pc Ls (.int z :: St)) := by
  obtain ⟨fs, hr, hrun, hended, hW, hsame⟩ := X.leave (v := some (.int (nar .byte z))) (fun h => by rw [hret] at h; cases h) hlk
  exact ⟨_, _, retN X hx (t := .byte) hret (by simp) hd hr, hrun, hended, _, _, rfl, hQ, ⟨_, rfl⟩, hW, hsame.mono hc hs⟩
theorem w_retC (X : Stand p l e R s m args below meth c T locs cells slots) (hx : p.tables.exec = Jvm.exec) (hret : meth.sig.returnType = some .char) (hlk : meth.locks = false) {z : Int32} (hd : decode c.code pc = .ok (.ireturn, 1)) (hc : cells ≤ cm) (hs : slots ≤ sm) (hQ : Q (some (.int (nar .char z))) T.heap locs) : Go p e below s cm sm Q T (mkF m pc Ls (.int z :: St)) := by
  obtain ⟨fs, hr, hrun, hended, hW, hsame⟩ := X.leave (v := some (.int (nar .char z))) (fun h => by rw [hret] at h; cases h) hlk
  exact ⟨_, _, retN X hx (t := .char) hret (by simp) hd hr, hrun, hended, _, _, rfl, hQ, ⟨_, rfl⟩, hW, hsame.mono hc hs⟩
theorem w_retS (X : Stand p l e R s m args below meth c T locs cells slots) (hx : p.tables.exec = Jvm.exec) (hret : meth.sig.returnType = some .short) (hlk : meth.locks = false) {z : Int32} (hd : decode c.code pc = .ok (.ireturn, 1)) (hc : cells ≤ cm) (hs : slots ≤ sm) (hQ : Q (some (.int (nar .short z))) T.heap locs) : Go p e below s cm sm Q T (mkF m pc Ls (.int z :: St)) := by
  obtain ⟨fs, hr, hrun, hended, hW, hsame⟩ := X.leave (v := some (.int (nar .short z))) (fun h => by rw [hret] at h; cases h) hlk
  exact ⟨_, _, retN X hx (t := .short) hret (by simp) hd hr, hrun, hended, _, _, rfl, hQ, ⟨_, rfl⟩, hW, hsame.mono hc hs⟩
theorem w_retI (X : Stand p l e R s m args below meth c T locs cells slots) (hx : p.tables.exec = Jvm.exec) (hret : meth.sig.returnType = some .int) (hlk : meth.locks = false) {z : Int32} (hd : decode c.code pc = .ok (.ireturn, 1)) (hc : cells ≤ cm) (hs : slots ≤ sm) (hQ : Q (some (.int z)) T.heap locs) : Go p e below s cm sm Q T (mkF m pc Ls (.int z :: St)) := by
  obtain ⟨fs, hr, hrun, hended, hW, hsame⟩ := X.leave (v := some (.int z)) (fun h => by rw [hret] at h; cases h) hlk
  refine ⟨T.setFrames fs, _, ?_, hrun, hended, _, _, rfl, hQ, ⟨_, rfl⟩, hW, hsame.mono hc hs⟩
  have hm' : T.vm.method? m = some meth := X.method'
  have hn : narrow .int (.int z) = .int z := rfl
  show Steps p.tables e below (T.setTop { method := m, pc := pc, locals := Ls, stack := .int z :: St, locked := none }) _
  jvm_step X.here [X.here.top, hx, hd, hm', hret, hn]
  first | (intro acts; rw [hr _ acts rfl rfl rfl]) | rw [hr _ _ rfl rfl rfl]
  exact Steps.refl _
theorem w_retJ (X : Stand p l e R s m args below meth c T locs cells slots) (hx : p.tables.exec = Jvm.exec) (hret : meth.sig.returnType = some .long) (hlk : meth.locks = false) {z : Int64} (hd : decode c.code pc = .ok (.lreturn, 1)) (hc : cells ≤ cm) (hs : slots ≤ sm) (hQ : Q (some (.long z)) T.heap locs) : Go p e below s cm sm Q T (mkF m pc Ls [.long z]) := by
  obtain ⟨fs, hr, hrun, hended, hW, hsame⟩ := X.leave (v := some (.long z)) (fun h => by rw [hret] at h; cases h) hlk
  exact ⟨T.setFrames fs, _, X.lreturnOut hx hret hd hr, hrun, hended, _, _, rfl, hQ, ⟨_, rfl⟩, hW, hsame.mono hc hs⟩
theorem w_retV (X : Stand p l e R s m args below meth c T locs cells slots) (hx : p.tables.exec = Jvm.exec) (hret : meth.sig.returnType = none) (hlk : meth.locks = false) (hd : decode c.code pc = .ok (.return_, 1)) (hc : cells ≤ cm) (hs : slots ≤ sm) (hQ : Q none T.heap locs) : Go p e below s cm sm Q T (mkF m pc Ls []) := by
  obtain ⟨fs, hr, hrun, hended, hW, hsame⟩ := X.leave (v := none) (fun _ => rfl) hlk
  exact ⟨T.setFrames fs, _, X.returnOut hx hret hd hr, hrun, hended, _, _, rfl, hQ, ⟨_, rfl⟩, hW, hsame.mono hc hs⟩
theorem w_retA (X : Stand p l e R s m args below meth c T locs cells slots) (hx : p.tables.exec = Jvm.exec) {rt : FieldType} (hret : meth.sig.returnType = some rt) (hrt : rt.isReference = true) (hlk : meth.locks = false) {a : Addr} (hd : decode c.code pc = .ok (.areturn, 1)) (hc : cells ≤ cm) (hs : slots ≤ sm) (hQ : Q (some (.ref a)) T.heap locs) : Go p e below s cm sm Q T (mkF m pc Ls (.ref a :: St)) := by
  obtain ⟨fs, hr, hrun, hended, hW, hsame⟩ := X.leave (v := some (.ref a)) (fun h => by rw [hret] at h; cases h) hlk
  refine ⟨T.setFrames fs, _, ?_, hrun, hended, _, _, rfl, hQ, ⟨_, rfl⟩, hW, hsame.mono hc hs⟩
  have hm' : T.vm.method? m = some meth := X.method'
  show Steps p.tables e below (T.setTop { method := m, pc := pc, locals := Ls, stack := .ref a :: St, locked := none }) _
  jvm_step X.here [X.here.top, hx, hd, hm', hret, Value.isRef, hrt]
  first | (intro acts; rw [hr _ acts rfl rfl rfl]) | rw [hr _ _ rfl rfl rfl]
  exact Steps.refl _
theorem Con.back {y : MethodName} {bytes : ByteArray} {maxL : Nat} {ret : Option FieldType} {rm : Room} {len W : Nat} {as' : Array Value} {Qc : Option Value → Heap → List Loc → Prop} (C : Con l Z y bytes maxL ret rm as' h Qc) (hZ : Z.Warmed39 s.vm) (wc : (Jvm.Cond.code y bytes maxL ret).before a0 Z = true) (wz : (Jvm.Cond.initialized y.cls).before a0 Z = true) (hf : rm.frames + 1 ≤ R.frames) (hl : W + (maxL + 11) + rm.locals ≤ R.locals) :
    Back l R p e below s args y len W (fun A a => a = as' ∧ A.U.heap = h ∧ A.cells + rm.cells ≤ R.cells ∧ A.slots + rm.slots ≤ R.slots) (fun A _ v B => ∃ L, Qc v B.U.heap L ∧ B.locs = A.locs ++ L ∧ B.cells = A.cells + rm.cells ∧ B.slots = A.slots + rm.slots) :=
  backOf (C []) hZ wc wz hf hl
theorem w_callS (X : Stand p l e R s m args below meth c T locs cells slots) (hx : p.tables.exec = Jvm.exec) (hZ : Z.Warmed39 s.vm) {own : String} {index : Nat} {y : MethodName} {bytes : ByteArray} {maxL : Nat} {ret : Option FieldType} {rm : Room} {W : Nat} {argsL rest : List Value} {Qc : Option Value → Heap → List Loc → Prop} (hown : s.vm.findClass own = some m.cls) (eT : T.heap = h) (C : Con l Z y bytes maxL ret rm argsL.toArray h Qc) (w1 : (Jvm.Cond.methodLink own index y).before a0 Z = true) (w2 : (Jvm.Cond.static y).before a0 Z = true) (w3 : (Jvm.Cond.initialized y.cls).before a0 Z = true) (w4 : (Jvm.Cond.code y bytes maxL ret).before a0 Z = true) (hy : y.cls ≠ "java/lang/invoke/MethodHandle" ∧ y.cls ≠ "java/lang/invoke/VarHandle")
    (hf : rm.frames + 1 ≤ R.frames) (hl : W + (maxL + 11) + rm.locals ≤ R.locals) (hc : cells + rm.cells ≤ R.cells) (hs : slots + rm.slots ≤ R.slots) (hsz : Ls.size = c.maxLocals) (hlen : ∀ sig, parseMethodDescriptor y.desc = some sig → argsL.length = sig.parameters.length) (hW : (rest.map fun v => v.category).sum ≤ W) (hst : St = argsL.reverse ++ rest) (hd : decode c.code pc = .ok (.invokestatic index, 3)) (hp : pc + 3 = pc')
    (kk : ∀ (T' : State) (L : List Loc) (v : Option Value), Stand p l e R s m args below meth c T' (locs ++ L) (cells + rm.cells) (slots + rm.slots) → Qc v T'.heap L → Go p e below s cm sm Q T' (mkF m pc' Ls (v.toList ++ rest))) : Go p e below s cm sm Q T (mkF m pc Ls St) := by
  subst hp hst
  obtain ⟨v, _, ⟨T1, L1, k1, n1⟩, -, X1, ⟨Lc, hQ, l1, y1, z1⟩, st⟩ := Jvm.LawKit.callS X hx (y := y) hown (mvT hZ w1) (mvT hZ w2) (mvT hZ w3) (mvT hZ w4) hy (C.back (W := W) hZ w4 w3 hf hl) (g := mkF m pc Ls (argsL.reverse ++ rest)) rfl hsz (argsL := argsL) (rest := rest) hlen rfl (by show 2 * 0 + _ ≤ _; rw [Nat.mul_zero, Nat.zero_add]; exact hW) hd (fun _ _ => ⟨rfl, eT, hc, hs⟩)
  dsimp only [Pt.U, Pt.locs, Pt.cells, Pt.slots] at X1 l1 y1 z1 st hQ
  subst l1 y1 z1
  exact Go.st st (kk _ _ _ X1 hQ)
theorem w_callI (X : Stand p l e R s m args below meth c T locs cells slots) (hx : p.tables.exec = Jvm.exec) (hZ : Z.Warmed39 s.vm) {own : String} {index : Nat} {y : MethodName} {bytes : ByteArray} {maxL : Nat} {rm : Room} {W : Nat} {argsL rest : List Value} {Qc : Option Value → Heap → List Loc → Prop} {a : Addr} (hown : s.vm.findClass own = some m.cls) (eT : T.heap = h) (C : Con l Z y bytes maxL none rm (.ref a :: argsL).toArray h Qc) (hn : y.name = "<init>") (w1 : (Jvm.Cond.methodLink own index y).before a0 Z = true) (w2 : (Jvm.Cond.instanceMethod y).before a0 Z = true) (w3 : (Jvm.Cond.initialized y.cls).before a0 Z = true) (w4 : (Jvm.Cond.code y bytes maxL none).before a0 Z = true) (hy : y.cls ≠ "java/lang/invoke/MethodHandle" ∧ y.cls ≠ "java/lang/invoke/VarHandle")
    (hf : rm.frames + 1 ≤ R.frames) (hl : W + (maxL + 11) + rm.locals ≤ R.locals) (hc : cells + rm.cells ≤ R.cells) (hs : slots + rm.slots ≤ R.slots) (hsz : Ls.size = c.maxLocals) (hlen : ∀ sig, parseMethodDescriptor y.desc = some sig → argsL.length = sig.parameters.length) (hW : (rest.map fun v => v.category).sum ≤ W) (hst : St = argsL.reverse ++ .ref a :: rest) (hd : decode c.code pc = .ok (.invokespecial index, 3)) (hp : pc + 3 = pc')
    (kk : ∀ (T' : State) (L : List Loc) (v : Option Value), Stand p l e R s m args below meth c T' (locs ++ L) (cells + rm.cells) (slots + rm.slots) → Qc v T'.heap L → Go p e below s cm sm Q T' (mkF m pc' Ls (v.toList ++ rest))) : Go p e below s cm sm Q T (mkF m pc Ls St) := by
  subst hp hst
  obtain ⟨v, _, ⟨T1, L1, k1, n1⟩, -, X1, ⟨Lc, hQ, l1, y1, z1⟩, st⟩ := X.specialBack hx (y := y) hn hown (mvT hZ w1) (mvT hZ w2) (mvT hZ w4) hy (C.back (W := W) hZ w4 w3 hf hl) (g := mkF m pc Ls (argsL.reverse ++ .ref a :: rest)) rfl hsz (Steps.refl _) (a := a) (argsL := argsL) (rest := rest) hlen rfl (by show 2 * 0 + _ ≤ _; rw [Nat.mul_zero, Nat.zero_add]; exact hW) hd (fun _ _ => ⟨rfl, eT, hc, hs⟩)
  dsimp only [Pt.U, Pt.locs, Pt.cells, Pt.slots] at X1 l1 y1 z1 st hQ
  subst l1 y1 z1
  exact Go.st (fun t q => st.trans q) (kk _ _ _ X1 hQ)
theorem w_callV (X : Stand p l e R s m args below meth c T locs cells slots) (hx : p.tables.exec = Jvm.exec) (hZ : Z.Warmed39 s.vm) {own : String} {index : Nat} {y : MethodName} {bytes : ByteArray} {maxL : Nat} {ret : Option FieldType} {rm : Room} {W : Nat} {argsL rest : List Value} {Qc : Option Value → Heap → List Loc → Prop} {a : Addr} (hown : s.vm.findClass own = some m.cls) (eT : T.heap = h) (E : Exa Z h a y.cls) (C : Con l Z y bytes maxL ret rm (.ref a :: argsL).toArray h Qc) (w1 : (Jvm.Cond.methodLink own index y).before a0 Z = true) (wd : (Jvm.Cond.declares y).before a0 Z = true) (ws : (Jvm.Cond.selects y.cls y y).before a0 Z = true) (w2 : (Jvm.Cond.instanceMethod y).before a0 Z = true) (w3 : (Jvm.Cond.initialized y.cls).before a0 Z = true) (w4 : (Jvm.Cond.code y bytes maxL ret).before a0 Z = true) (hy : y.cls ≠ "java/lang/invoke/MethodHandle" ∧ y.cls ≠ "java/lang/invoke/VarHandle")
    (hf : rm.frames + 1 ≤ R.frames) (hl : W + (maxL + 11) + rm.locals ≤ R.locals) (hc : cells + rm.cells ≤ R.cells) (hs : slots + rm.slots ≤ R.slots) (hsz : Ls.size = c.maxLocals) (hlen : ∀ sig, parseMethodDescriptor y.desc = some sig → argsL.length = sig.parameters.length) (hW : (rest.map fun v => v.category).sum ≤ W) (hst : St = argsL.reverse ++ .ref a :: rest) (hd : decode c.code pc = .ok (.invokevirtual index, 3)) (hp : pc + 3 = pc')
    (kk : ∀ (T' : State) (L : List Loc) (v : Option Value), Stand p l e R s m args below meth c T' (locs ++ L) (cells + rm.cells) (slots + rm.slots) → Qc v T'.heap L → Go p e below s cm sm Q T' (mkF m pc' Ls (v.toList ++ rest))) : Go p e below s cm sm Q T (mkF m pc Ls St) := by
  subst hp hst
  obtain ⟨cq, kq, qa, qb, qc⟩ := isOf hZ eT E
  obtain ⟨v, _, ⟨T1, L1, k1, n1⟩, -, X1, ⟨Lc, hQ, l1, y1, z1⟩, st⟩ := X.virtualBack hx (y := y) (z := y) hown (mvT hZ w1) (mvT hZ wd) (notFace_of_selects (args := #[]) (mvT hZ ws)) (mvT hZ ws) (mvT hZ w2) hy (C.back (W := W) hZ w4 w3 hf hl) qa qc (g := mkF m pc Ls (argsL.reverse ++ .ref a :: rest)) rfl hsz (Steps.refl _) (argsL := argsL) (rest := rest) hlen rfl (by show 2 * 0 + _ ≤ _; rw [Nat.mul_zero, Nat.zero_add]; exact hW) hd (fun _ _ => ⟨rfl, eT, hc, hs⟩)
  dsimp only [Pt.U, Pt.locs, Pt.cells, Pt.slots] at X1 l1 y1 z1 st hQ
  subst l1 y1 z1
  exact Go.st (fun t q => st.trans q) (kk _ _ _ X1 hQ)
theorem w_initO (X : Stand p l e R s m args below meth c T locs cells slots) (hx : p.tables.exec = Jvm.exec) (hZ : Z.Warmed39 s.vm) {own : String} {index : Nat} {a : Addr} (hown : s.vm.findClass own = some m.cls) (eT : T.heap = h) (w1 : (Jvm.Cond.methodLink own index Lib.objectInit).before a0 Z = true) (w2 : (Jvm.Cond.instanceMethod Lib.objectInit).before a0 Z = true) (w3 : (Jvm.Cond.code Lib.objectInit ⟨#[0xb1]⟩ 1 none).before a0 Z = true) (hsz : Ls.size = c.maxLocals) (hd : decode c.code pc = .ok (.invokespecial index, 3)) (hf : 1 ≤ R.frames) {W : Nat} (hW : (St.map fun v => v.category).sum ≤ W) (hl : W + 12 ≤ R.locals) (hp : pc + 3 = pc')
    (kk : ∀ T' : State, Stand p l e R s m args below meth c T' locs cells slots → T'.heap = h → Go p e below s cm sm Q T' (mkF m pc' Ls St)) : Go p e below s cm sm Q T (mkF m pc Ls (.ref a :: St)) := by
  subst hp
  obtain ⟨T1, X1, e1, st⟩ := initO X hx hZ hown w1 w2 w3 eT (g := mkF m pc Ls (.ref a :: St)) rfl hsz rfl hd hf (W := W) (by show 2 * 0 + _ ≤ _; rw [Nat.mul_zero, Nat.zero_add]; exact hW) hl
  exact Go.st st (kk _ X1 e1)
theorem w_getF (X : Stand p l e R s m args below meth c T locs cells slots) (hx : p.tables.exec = Jvm.exec) (hZ : Z.Warmed39 s.vm) {own O n d : String} {index : Nat} {a : Addr} {v : Value} (hown : s.vm.findClass own = some m.cls) (eT : T.heap = h) (F : Fld Z h a O n d v) (w : (Jvm.Cond.fieldLink own index O n d).before a0 Z = true) (hd : decode c.code pc = .ok (.getfield index, 3)) (hp : pc + 3 = pc')
    (kk : ∀ T' : State, Stand p l e R s m args below meth c T' locs cells slots → T'.heap = h → Go p e below s cm sm Q T' (mkF m pc' Ls (v :: St))) : Go p e below s cm sm Q T (mkF m pc Ls (.ref a :: St)) := by
  subst hp
  obtain ⟨T1, X1, e1, st⟩ := getF X hx hZ hown (host := "") (Or.inl w) Via.refl eT F (g := mkF m pc Ls (.ref a :: St)) rfl rfl hd
  exact Go.st st (kk _ X1 e1)
theorem w_putF (X : Stand p l e R s m args below meth c T locs cells slots) (hx : p.tables.exec = Jvm.exec) (hZ : Z.Warmed39 s.vm) {own O n d C : String} {index kn : Nat} {ty : FieldType} {a : Addr} {v old : Value} (hown : s.vm.findClass own = some m.cls) (eT : T.heap = h) (F : Fld Z h a O n d old) (E : Exa Z h a C) (w : (Jvm.Cond.fieldLink own index O n d).before a0 Z = true) (L : (Jvm.Cond.lays C O n d).before a0 Z = true ∨ ((Jvm.Cond.laysFinal C O n d).before a0 Z = true ∧ own = O ∧ meth.name = "<init>")) (wi : (Jvm.Cond.instantiable C kn).before a0 Z = true) (hty : parseFieldDescriptor d = some ty) (hn : narrow ty v = v) (hf : fits ty v = true) (hd : decode c.code pc = .ok (.putfield index, 3)) (hp : pc + 3 = pc')
    (kk : ∀ (T' : State) (h' : Heap), Stand p l e R s m args below meth c T' (locs ++ [⟨a, RoadKit.slotOf Z O n d⟩]) cells slots → T'.heap = h' → Wr h h' a (RoadKit.slotOf Z O n d) v → Go p e below s cm sm Q T' (mkF m pc' Ls St)) : Go p e below s cm sm Q T (mkF m pc Ls (v :: .ref a :: St)) := by
  subst hp
  obtain ⟨T1, h1, X1, e1, W1, st⟩ := putF X hx hZ hown (host := "") (Or.inl w) Via.refl eT F E L wi hty hn hf (g := mkF m pc Ls (v :: .ref a :: St)) rfl rfl hd
  exact Go.st st (kk _ _ X1 e1 W1)
theorem w_newO (X : Stand p l e R s m args below meth c T locs cells slots) (hx : p.tables.exec = Jvm.exec) (hZ : Z.Warmed39 s.vm) {own C : String} {index kn : Nat} (hown : s.vm.findClass own = some m.cls) (eT : T.heap = h) (w : (Jvm.Cond.classLink own index C).before a0 Z = true) (wi : (Jvm.Cond.instantiable C kn).before a0 Z = true) (wz : (Jvm.Cond.initialized C).before a0 Z = true) (hd : decode c.code pc = .ok (.new index, 3)) (hc : cells + 1 ≤ R.cells) (hl : slots + kn ≤ R.slots) (hp : pc + 3 = pc')
    (kk : ∀ (T' : State) (h' : Heap) (b : Addr), Stand p l e R s m args below meth c T' locs (cells + 1) (slots + kn) → T'.heap = h' → Ext h h' → b = h.size → Exa Z h' b C → (∀ {O nm d : String} {ty : FieldType}, Laid Z a0 C O nm d → parseFieldDescriptor d = some ty → Fld Z h' b O nm d (defaultValue ty)) → Go p e below s cm sm Q T' (mkF m pc' Ls (.ref b :: St))) : Go p e below s cm sm Q T (mkF m pc Ls St) := by
  subst hp
  obtain ⟨T1, h1, X1, e1, E1, A1, D1, -, st⟩ := newO X hx hZ hown w wi wz eT (g := mkF m pc Ls St) rfl hd hc hl
  exact Go.st st (kk _ _ _ X1 e1 E1 rfl A1 D1)
/-- an array of ints, bytes, chars, shorts or booleans, by its list -/
def AI (Z : State) (h : Heap) (a : Addr) (ty : FieldType) (vs : List Int32) : Prop := ∃ c : Cell, Arr Z h a c ty ∧ c.slots.toList = vs.map Value.int ∧ vs.length < 2147483648
/-- an array of longs, by its list -/
def AJ (Z : State) (h : Heap) (a : Addr) (vs : List Int64) : Prop := ∃ c : Cell, Arr Z h a c .long ∧ c.slots.toList = vs.map Value.long ∧ vs.length < 2147483648
theorem AI.lt {a : Addr} {ty : FieldType} {vs : List Int32} (F : AI Z h a ty vs) : a < h.size := by obtain ⟨c, q, -⟩ := F; exact q.lt
theorem AI.ext {a : Addr} {ty : FieldType} {vs : List Int32} (F : AI Z h a ty vs) (E : Ext h h') : AI Z h' a ty vs := by obtain ⟨c, q, r⟩ := F; exact ⟨c, q.ext E, r⟩
theorem AI.other {a b : Addr} {ty : FieldType} {vs : List Int32} {sl : Nat} {v : Value} (F : AI Z h a ty vs) (W : Wr h h' b sl v) (q : a ≠ b) : AI Z h' a ty vs := by obtain ⟨c, A, r⟩ := F; exact ⟨c, A.other W q, r⟩
theorem AI.keep {a : Addr} {ty : FieldType} {vs : List Int32} {ws : List Addr} (F : AI Z h a ty vs) (K : Keep h h' ws) (q : a ∉ ws) : AI Z h' a ty vs := by obtain ⟨c, A, r⟩ := F; exact ⟨c, ⟨K.2.1 a c A.1 q, A.2⟩, r⟩
theorem AI.new {a : Addr} {k : ClassId} {z : Int32} {ty : FieldType} (A : Arr Z h a (newA k ty z) ty) (hd : defaultValue ty = .int 0) : AI Z h a ty (List.replicate z.toNatClampNeg 0) := by
  refine ⟨_, A, ?_, ?_⟩
  · simp [newA, hd]
  · have := z.toInt_lt; rw [List.length_replicate]; show z.toInt.toNat < _; omega
theorem AI.wr {a : Addr} {ty : FieldType} {vs : List Int32} {j : Nat} {x : Int32} (F : AI Z h a ty vs) (W : Wr h h' a j (Value.int x)) : AI Z h' a ty (vs.set j x) := by
  obtain ⟨c, A, q, r⟩ := F
  refine ⟨_, A.same W, ?_, by simpa using r⟩
  simp [Cell.setSlot, q, List.map_set]
theorem AI.len {a : Addr} {ty : FieldType} {vs : List Int32} (F : AI Z h a ty vs) : vs.length < 2147483648 := by obtain ⟨c, q, r, t⟩ := F; exact t
theorem AI.sz {vs : List Int32} {c : Cell} (q : c.slots.toList = vs.map Value.int) : c.slots.size = vs.length := by
  have := congrArg List.length q; simpa using this
theorem AI.at {vs : List Int32} {c : Cell} {j : Nat} {x : Int32} (q : c.slots.toList = vs.map Value.int) (hv : vs[j]? = some x) : c.slots[j]? = some (Value.int x) := by
  rw [← Array.getElem?_toList, q]; simp [hv]
theorem AI.inb {vs : List Int32} {c : Cell} {j : Int32} (q : c.slots.toList = vs.map Value.int) (hj : ¬ j < 0) (hl : j.toNatClampNeg < vs.length) : ¬ (j < 0 ∨ c.slots.size ≤ j.toNatClampNeg) := by
  have := AI.sz q
  rw [this]
  rintro (r | r)
  · exact hj r
  · omega
theorem AJ.lt {a : Addr} {vs : List Int64} (F : AJ Z h a vs) : a < h.size := by obtain ⟨c, q, -⟩ := F; exact q.lt
theorem AJ.ext {a : Addr} {vs : List Int64} (F : AJ Z h a vs) (E : Ext h h') : AJ Z h' a vs := by obtain ⟨c, q, r⟩ := F; exact ⟨c, q.ext E, r⟩
theorem AJ.other {a b : Addr} {vs : List Int64} {sl : Nat} {v : Value} (F : AJ Z h a vs) (W : Wr h h' b sl v) (q : a ≠ b) : AJ Z h' a vs := by obtain ⟨c, A, r⟩ := F; exact ⟨c, A.other W q, r⟩
theorem AJ.keep {a : Addr} {vs : List Int64} {ws : List Addr} (F : AJ Z h a vs) (K : Keep h h' ws) (q : a ∉ ws) : AJ Z h' a vs := by obtain ⟨c, A, r⟩ := F; exact ⟨c, ⟨K.2.1 a c A.1 q, A.2⟩, r⟩
theorem AJ.new {a : Addr} {k : ClassId} {z : Int32} (A : Arr Z h a (newA k .long z) .long) : AJ Z h a (List.replicate z.toNatClampNeg 0) := by
  refine ⟨_, A, ?_, ?_⟩
  · simp [newA, defaultValue]
  · have := z.toInt_lt; rw [List.length_replicate]; show z.toInt.toNat < _; omega
theorem AJ.wr {a : Addr} {vs : List Int64} {j : Nat} {x : Int64} (F : AJ Z h a vs) (W : Wr h h' a j (Value.long x)) : AJ Z h' a (vs.set j x) := by
  obtain ⟨c, A, q, r⟩ := F
  refine ⟨_, A.same W, ?_, by simpa using r⟩
  simp [Cell.setSlot, q, List.map_set]
theorem AJ.len {a : Addr} {vs : List Int64} (F : AJ Z h a vs) : vs.length < 2147483648 := by obtain ⟨c, q, r, t⟩ := F; exact t
theorem AJ.sz {vs : List Int64} {c : Cell} (q : c.slots.toList = vs.map Value.long) : c.slots.size = vs.length := by
  have := congrArg List.length q; simpa using this
theorem AJ.at {vs : List Int64} {c : Cell} {j : Nat} {x : Int64} (q : c.slots.toList = vs.map Value.long) (hv : vs[j]? = some x) : c.slots[j]? = some (Value.long x) := by
  rw [← Array.getElem?_toList, q]; simp [hv]
theorem AJ.inb {vs : List Int64} {c : Cell} {j : Int32} (q : c.slots.toList = vs.map Value.long) (hj : ¬ j < 0) (hl : j.toNatClampNeg < vs.length) : ¬ (j < 0 ∨ c.slots.size ≤ j.toNatClampNeg) := by
  have := AJ.sz q
  rw [this]
  rintro (r | r)
  · exact hj r
  · omega
theorem w_iaload (X : Stand p l e R s m args below meth c T locs cells slots) (hx : p.tables.exec = Jvm.exec) (hZ : Z.Warmed39 s.vm) {a : Addr} {vs : List Int32} {j : Int32} {v : Int32} (eT : T.heap = h) (F : AI Z h a .int vs) (hj : ¬ j < 0) (hv : vs[j.toNatClampNeg]? = some v) (hd : decode c.code pc = .ok (.iaload, 1)) (hp : pc + 1 = pc')
    (kk : Go p e below s cm sm Q T (mkF m pc' Ls (Value.int v :: St))) : Go p e below s cm sm Q T (mkF m pc Ls (.int j :: .ref a :: St)) := by
  subst hp
  obtain ⟨cl, A, q, r⟩ := F
  exact Go.st (fun t k => X.iaload hx (j := j) (v := Value.int v) (by rw [eT]; exact A.1) (State.isArrayOf_alike hZ.alike A.2.1) A.2.2 (AI.inb q hj (List.getElem?_eq_some_iff.mp hv).1) (AI.at q hv) (g := mkF m pc Ls (.int j :: .ref a :: St)) rfl rfl hd t k) kk
theorem w_baload (X : Stand p l e R s m args below meth c T locs cells slots) (hx : p.tables.exec = Jvm.exec) (hZ : Z.Warmed39 s.vm) {a : Addr} {vs : List Int32} {j : Int32} {v : Int32} (eT : T.heap = h) (F : AI Z h a .byte vs) (hj : ¬ j < 0) (hv : vs[j.toNatClampNeg]? = some v) (hd : decode c.code pc = .ok (.baload, 1)) (hp : pc + 1 = pc')
    (kk : Go p e below s cm sm Q T (mkF m pc' Ls (Value.int v :: St))) : Go p e below s cm sm Q T (mkF m pc Ls (.int j :: .ref a :: St)) := by
  subst hp
  obtain ⟨cl, A, q, r⟩ := F
  exact Go.st (fun t k => X.baloadBytes hx (j := j) (v := Value.int v) (by rw [eT]; exact A.1) (State.isArrayOf_alike hZ.alike A.2.1) A.2.2 (AI.inb q hj (List.getElem?_eq_some_iff.mp hv).1) (AI.at q hv) (g := mkF m pc Ls (.int j :: .ref a :: St)) rfl rfl hd t k) kk
theorem w_laload (X : Stand p l e R s m args below meth c T locs cells slots) (hx : p.tables.exec = Jvm.exec) (hZ : Z.Warmed39 s.vm) {a : Addr} {vs : List Int64} {j : Int32} {v : Int64} (eT : T.heap = h) (F : AJ Z h a vs) (hj : ¬ j < 0) (hv : vs[j.toNatClampNeg]? = some v) (hd : decode c.code pc = .ok (.laload, 1)) (hp : pc + 1 = pc')
    (kk : Go p e below s cm sm Q T (mkF m pc' Ls (Value.long v :: St))) : Go p e below s cm sm Q T (mkF m pc Ls (.int j :: .ref a :: St)) := by
  subst hp
  obtain ⟨cl, A, q, r⟩ := F
  exact Go.st (fun t k => X.laload hx (j := j) (v := Value.long v) (by rw [eT]; exact A.1) (State.isArrayOf_alike hZ.alike A.2.1) A.2.2 (AJ.inb q hj (List.getElem?_eq_some_iff.mp hv).1) (AJ.at q hv) (g := mkF m pc Ls (.int j :: .ref a :: St)) rfl rfl hd t k) kk
theorem w_iastore (X : Stand p l e R s m args below meth c T locs cells slots) (hx : p.tables.exec = Jvm.exec) (hZ : Z.Warmed39 s.vm) {a : Addr} {vs : List Int32} {j : Int32} {x : Int32} (eT : T.heap = h) (F : AI Z h a .int vs) (hj : ¬ j < 0) (hl : j.toNatClampNeg < vs.length) (hd : decode c.code pc = .ok (.iastore, 1)) (hp : pc + 1 = pc')
    (kk : ∀ (T' : State) (h' : Heap), Stand p l e R s m args below meth c T' (locs ++ [⟨a, j.toNatClampNeg⟩]) cells slots → T'.heap = h' → Wr h h' a j.toNatClampNeg (Value.int x) → AI Z h' a .int (vs.set j.toNatClampNeg x) → Go p e below s cm sm Q T' (mkF m pc' Ls St)) : Go p e below s cm sm Q T (mkF m pc Ls (Value.int x :: .int j :: .ref a :: St)) := by
  subst hp
  obtain ⟨cl, A, q, r⟩ := F
  obtain ⟨T1, h1, X1, e1, W1, st⟩ := RoadKit.stI X hx hZ eT A (j := j) (x := x) (AI.inb q hj hl) (g := mkF m pc Ls (Value.int x :: .int j :: .ref a :: St)) rfl rfl hd
  exact Go.st st (kk _ _ X1 e1 W1 (AI.wr ⟨cl, A, q, r⟩ W1))
theorem w_bastore (X : Stand p l e R s m args below meth c T locs cells slots) (hx : p.tables.exec = Jvm.exec) (hZ : Z.Warmed39 s.vm) {a : Addr} {vs : List Int32} {j : Int32} {x : Int32} (eT : T.heap = h) (F : AI Z h a .byte vs) (hj : ¬ j < 0) (hl : j.toNatClampNeg < vs.length) (hd : decode c.code pc = .ok (.bastore, 1)) (hp : pc + 1 = pc')
    (kk : ∀ (T' : State) (h' : Heap), Stand p l e R s m args below meth c T' (locs ++ [⟨a, j.toNatClampNeg⟩]) cells slots → T'.heap = h' → Wr h h' a j.toNatClampNeg (Value.int (nar .byte x)) → AI Z h' a .byte (vs.set j.toNatClampNeg (nar .byte x)) → Go p e below s cm sm Q T' (mkF m pc' Ls St)) : Go p e below s cm sm Q T (mkF m pc Ls (Value.int x :: .int j :: .ref a :: St)) := by
  subst hp
  obtain ⟨cl, A, q, r⟩ := F
  obtain ⟨T1, h1, X1, e1, W1, st⟩ := RoadKit.stB X hx hZ eT A (j := j) (x := x) (AI.inb q hj hl) (g := mkF m pc Ls (Value.int x :: .int j :: .ref a :: St)) rfl rfl hd
  exact Go.st st (kk _ _ X1 e1 W1 (AI.wr ⟨cl, A, q, r⟩ W1))
theorem w_lastore (X : Stand p l e R s m args below meth c T locs cells slots) (hx : p.tables.exec = Jvm.exec) (hZ : Z.Warmed39 s.vm) {a : Addr} {vs : List Int64} {j : Int32} {x : Int64} (eT : T.heap = h) (F : AJ Z h a vs) (hj : ¬ j < 0) (hl : j.toNatClampNeg < vs.length) (hd : decode c.code pc = .ok (.lastore, 1)) (hp : pc + 1 = pc')
    (kk : ∀ (T' : State) (h' : Heap), Stand p l e R s m args below meth c T' (locs ++ [⟨a, j.toNatClampNeg⟩]) cells slots → T'.heap = h' → Wr h h' a j.toNatClampNeg (Value.long x) → AJ Z h' a (vs.set j.toNatClampNeg x) → Go p e below s cm sm Q T' (mkF m pc' Ls St)) : Go p e below s cm sm Q T (mkF m pc Ls (Value.long x :: .int j :: .ref a :: St)) := by
  subst hp
  obtain ⟨cl, A, q, r⟩ := F
  obtain ⟨T1, h1, X1, e1, W1, st⟩ := RoadKit.stJ X hx hZ eT A (j := j) (x := x) (AJ.inb q hj hl) (g := mkF m pc Ls (Value.long x :: .int j :: .ref a :: St)) rfl rfl hd
  exact Go.st st (kk _ _ X1 e1 W1 (AJ.wr ⟨cl, A, q, r⟩ W1))
theorem w_alenI (X : Stand p l e R s m args below meth c T locs cells slots) (hx : p.tables.exec = Jvm.exec) (hZ : Z.Warmed39 s.vm) {a : Addr} {ty : FieldType} {vs : List Int32} {n : Int32} (eT : T.heap = h) (F : AI Z h a ty vs) (hn : vs.length.toInt32 = n) (hd : decode c.code pc = .ok (.arraylength, 1)) (hp : pc + 1 = pc')
    (kk : Go p e below s cm sm Q T (mkF m pc' Ls (.int n :: St))) : Go p e below s cm sm Q T (mkF m pc Ls (.ref a :: St)) := by
  subst hp hn
  obtain ⟨cl, A, q, r⟩ := F
  have hs := AI.sz q
  exact Go.st (fun t k => X.arraylength hx (by rw [eT]; exact A.1) (State.isArrayOf_alike hZ.alike A.2.1) (g := mkF m pc Ls (.ref a :: St)) rfl rfl hd t (by rw [hs]; exact k)) kk
theorem w_alenJ (X : Stand p l e R s m args below meth c T locs cells slots) (hx : p.tables.exec = Jvm.exec) (hZ : Z.Warmed39 s.vm) {a : Addr} {vs : List Int64} {n : Int32} (eT : T.heap = h) (F : AJ Z h a vs) (hn : vs.length.toInt32 = n) (hd : decode c.code pc = .ok (.arraylength, 1)) (hp : pc + 1 = pc')
    (kk : Go p e below s cm sm Q T (mkF m pc' Ls (.int n :: St))) : Go p e below s cm sm Q T (mkF m pc Ls (.ref a :: St)) := by
  subst hp hn
  obtain ⟨cl, A, q, r⟩ := F
  have hs := AJ.sz q
  exact Go.st (fun t k => X.arraylength hx (by rw [eT]; exact A.1) (State.isArrayOf_alike hZ.alike A.2.1) (g := mkF m pc Ls (.ref a :: St)) rfl rfl hd t (by rw [hs]; exact k)) kk
theorem w_newI (X : Stand p l e R s m args below meth c T locs cells slots) (hx : p.tables.exec = Jvm.exec) (hZ : Z.Warmed39 s.vm) {n : Int32} {cap : Nat} (eT : T.heap = h) (w : (Jvm.Cond.arrayClass .int).before a0 Z = true) (hn : ¬ n < 0) (hcap : n.toNatClampNeg ≤ cap) (hb : cap * 8 ≤ 536870912) (hc : cells + 1 ≤ R.cells) (hl : slots + cap ≤ R.slots) (hd : decode c.code pc = .ok (.newarray .int, 2)) (hp : pc + 2 = pc')
    (kk : ∀ (T' : State) (h' : Heap) (b : Addr), Stand p l e R s m args below meth c T' locs (cells + 1) (slots + cap) → T'.heap = h' → Ext h h' → b = h.size → AI Z h' b .int (List.replicate n.toNatClampNeg 0) → Go p e below s cm sm Q T' (mkF m pc' Ls (.ref b :: St))) : Go p e below s cm sm Q T (mkF m pc Ls (.int n :: St)) := by
  subst hp
  obtain ⟨T1, h1, k1, X1, e1, E1, A1, st⟩ := newP X hx hZ (aty := .int) w eT (g := mkF m pc Ls (.int n :: St)) rfl hd rfl hn (cap := cap) hcap hb hc hl
  exact Go.st st (kk _ _ _ X1 e1 E1 rfl (AI.new A1 rfl))
theorem w_newB (X : Stand p l e R s m args below meth c T locs cells slots) (hx : p.tables.exec = Jvm.exec) (hZ : Z.Warmed39 s.vm) {n : Int32} {cap : Nat} (eT : T.heap = h) (w : (Jvm.Cond.arrayClass .byte).before a0 Z = true) (hn : ¬ n < 0) (hcap : n.toNatClampNeg ≤ cap) (hb : cap * 8 ≤ 536870912) (hc : cells + 1 ≤ R.cells) (hl : slots + cap ≤ R.slots) (hd : decode c.code pc = .ok (.newarray .byte, 2)) (hp : pc + 2 = pc')
    (kk : ∀ (T' : State) (h' : Heap) (b : Addr), Stand p l e R s m args below meth c T' locs (cells + 1) (slots + cap) → T'.heap = h' → Ext h h' → b = h.size → AI Z h' b .byte (List.replicate n.toNatClampNeg 0) → Go p e below s cm sm Q T' (mkF m pc' Ls (.ref b :: St))) : Go p e below s cm sm Q T (mkF m pc Ls (.int n :: St)) := by
  subst hp
  obtain ⟨T1, h1, k1, X1, e1, E1, A1, st⟩ := newP X hx hZ (aty := .byte) w eT (g := mkF m pc Ls (.int n :: St)) rfl hd rfl hn (cap := cap) hcap hb hc hl
  exact Go.st st (kk _ _ _ X1 e1 E1 rfl (AI.new A1 rfl))
theorem w_newJ (X : Stand p l e R s m args below meth c T locs cells slots) (hx : p.tables.exec = Jvm.exec) (hZ : Z.Warmed39 s.vm) {n : Int32} {cap : Nat} (eT : T.heap = h) (w : (Jvm.Cond.arrayClass .long).before a0 Z = true) (hn : ¬ n < 0) (hcap : n.toNatClampNeg ≤ cap) (hb : cap * 8 ≤ 536870912) (hc : cells + 1 ≤ R.cells) (hl : slots + cap ≤ R.slots) (hd : decode c.code pc = .ok (.newarray .long, 2)) (hp : pc + 2 = pc')
    (kk : ∀ (T' : State) (h' : Heap) (b : Addr), Stand p l e R s m args below meth c T' locs (cells + 1) (slots + cap) → T'.heap = h' → Ext h h' → b = h.size → AJ Z h' b (List.replicate n.toNatClampNeg 0) → Go p e below s cm sm Q T' (mkF m pc' Ls (.ref b :: St))) : Go p e below s cm sm Q T (mkF m pc Ls (.int n :: St)) := by
  subst hp
  obtain ⟨T1, h1, k1, X1, e1, E1, A1, st⟩ := newP X hx hZ (aty := .long) w eT (g := mkF m pc Ls (.int n :: St)) rfl hd rfl hn (cap := cap) hcap hb hc hl
  exact Go.st st (kk _ _ _ X1 e1 E1 rfl (AJ.new A1))
theorem w_callP (X : Stand p l e R s m args below meth c T locs cells slots) (hx : p.tables.exec = Jvm.exec) (hZ : Z.Warmed39 s.vm) {own : String} {index : Nat} {y : MethodName} {bytes : ByteArray} {maxL : Nat} {ret : Option FieldType} {rm : Room} {W : Nat} {argsL rest : List Value} {Qc : Option Value → Heap → List Loc → Prop} {a : Addr} (hown : s.vm.findClass own = some m.cls) (eT : T.heap = h) (E : Exa Z h a y.cls) (C : Con l Z y bytes maxL ret rm (.ref a :: argsL).toArray h Qc) (w1 : (Jvm.Cond.methodLink own index y).before a0 Z = true) (w2 : (Jvm.Cond.instanceMethod y).before a0 Z = true) (ws : (Jvm.Cond.selects y.cls y y).before a0 Z = true) (wp : (Jvm.Cond.privateMethod y).before a0 Z = true) (w3 : (Jvm.Cond.initialized y.cls).before a0 Z = true) (w4 : (Jvm.Cond.code y bytes maxL ret).before a0 Z = true) (hy : y.cls ≠ "java/lang/invoke/MethodHandle" ∧ y.cls ≠ "java/lang/invoke/VarHandle")
    (hf : rm.frames + 1 ≤ R.frames) (hl : W + (maxL + 11) + rm.locals ≤ R.locals) (hc : cells + rm.cells ≤ R.cells) (hs : slots + rm.slots ≤ R.slots) (hsz : Ls.size = c.maxLocals) (hlen : ∀ sig, parseMethodDescriptor y.desc = some sig → argsL.length = sig.parameters.length) (hW : (rest.map fun v => v.category).sum ≤ W) (hst : St = argsL.reverse ++ .ref a :: rest) (hd : decode c.code pc = .ok (.invokevirtual index, 3)) (hp : pc + 3 = pc')
    (kk : ∀ (T' : State) (L : List Loc) (v : Option Value), Stand p l e R s m args below meth c T' (locs ++ L) (cells + rm.cells) (slots + rm.slots) → Qc v T'.heap L → Go p e below s cm sm Q T' (mkF m pc' Ls (v.toList ++ rest))) : Go p e below s cm sm Q T (mkF m pc Ls St) := by
  subst hp hst
  obtain ⟨cq, q1, q2⟩ := E.cell
  obtain ⟨v, _, ⟨T1, L1, k1, n1⟩, -, X1, ⟨Lc, hQ, l1, y1, z1⟩, st⟩ := X.privateBack hx (y := y) hown (mvT hZ w1) (mvT hZ w2) (mvT hZ ws) (Cond.privateMethod_at (mvP hZ wp (args := #[]))) (mvT hZ w4) hy (C.back (W := W) hZ w4 w3 hf hl) (g := mkF m pc Ls (argsL.reverse ++ .ref a :: rest)) rfl hsz (Steps.refl _) (a := a) (by rw [eT]; exact q1) q2 (argsL := argsL) (rest := rest) hlen rfl (by show 2 * 0 + _ ≤ _; rw [Nat.mul_zero, Nat.zero_add]; exact hW) hd (fun _ _ => ⟨rfl, eT, hc, hs⟩)
  dsimp only [Pt.U, Pt.locs, Pt.cells, Pt.slots] at X1 l1 y1 z1 st hQ
  subst l1 y1 z1
  exact Go.st (fun t q => st.trans q) (kk _ _ _ X1 hQ)
theorem w_ifnullNo (X : Stand p l e R s m args below meth c T locs cells slots) (hx : p.tables.exec = Jvm.exec) {o : Int} {b : Addr} (hd : decode c.code pc = .ok (.ifnull o, 3)) (hp : pc + 3 = pc') (kk : Go p e below s cm sm Q T (mkF m pc' Ls St)) : Go p e below s cm sm Q T (mkF m pc Ls (.ref b :: St)) := by
  subst hp
  exact Go.st (fun t q => XS.ifnullNo (g := mkF m pc Ls (.ref b :: St)) X.here hx rfl hd rfl q) kk
theorem own_len {n k : Nat} (h : n < 2147483648) (hk : k < 2147483648) (hc : ¬ n.toInt32 < k.toInt32) : k ≤ n := by
  rw [Int32.lt_iff_toInt_lt, len_toInt h, len_toInt hk] at hc
  omega
theorem own_len' {n k : Nat} (h : n < 2147483648) (hk : k < 2147483648) (hc : n.toInt32 < k.toInt32) : n < k := by
  rw [Int32.lt_iff_toInt_lt, len_toInt h, len_toInt hk] at hc
  omega
theorem own_getD {α : Type} {vs : List α} {j : Nat} {d : α} (h : j < vs.length) : vs[j]? = some (vs.getD j d) := by simp [h]
theorem own_nar0 : nar .boolean 0 = 0 := by decide
theorem own_nar1 : nar .boolean 1 = 1 := by decide
theorem w_up {c' s' : Nat} (X : Stand p l e R s m args below meth c T locs cells slots) (h1 : cells ≤ c') (h2 : slots ≤ s') : Stand p l e R s m args below meth c T locs c' s' :=
  ⟨X.admits, X.cas, X.clock, X.frames, X.room, X.hears, X.method, X.code, X.here, X.tail, X.warmed, X.limits, X.bytes, X.same.mono h1 h2⟩
end OwnKit
theorem pd_0 : parseMethodDescriptor "([II)Z" = some ⟨[(.array .int), .int], some .boolean⟩ := by decide +kernel
theorem d1_0 : decode prog_49_method_2_code 0 = .ok (.iconst 0, 1) := by decide +kernel
theorem d1_1 : decode prog_49_method_2_code 1 = .ok (.istore_n 2, 1) := by decide +kernel
theorem d1_2 : decode prog_49_method_2_code 2 = .ok (.aload_n 0, 1) := by decide +kernel
theorem d1_3 : decode prog_49_method_2_code 3 = .ok (.arraylength, 1) := by decide +kernel
theorem d1_4 : decode prog_49_method_2_code 4 = .ok (.iconst 2, 1) := by decide +kernel
theorem d1_5 : decode prog_49_method_2_code 5 = .ok (.idiv, 1) := by decide +kernel
theorem d1_6 : decode prog_49_method_2_code 6 = .ok (.iconst 1, 1) := by decide +kernel
theorem d1_7 : decode prog_49_method_2_code 7 = .ok (.isub, 1) := by decide +kernel
theorem d1_8 : decode prog_49_method_2_code 8 = .ok (.istore_n 3, 1) := by decide +kernel
theorem d1_9 : decode prog_49_method_2_code 9 = .ok (.iload_n 2, 1) := by decide +kernel
theorem d1_10 : decode prog_49_method_2_code 10 = .ok (.iload_n 3, 1) := by decide +kernel
theorem d1_11 : decode prog_49_method_2_code 11 = .ok (.if_icmp .gt 36, 3) := by decide +kernel
theorem d1_14 : decode prog_49_method_2_code 14 = .ok (.iload_n 2, 1) := by decide +kernel
theorem d1_15 : decode prog_49_method_2_code 15 = .ok (.iload_n 3, 1) := by decide +kernel
theorem d1_16 : decode prog_49_method_2_code 16 = .ok (.iadd, 1) := by decide +kernel
theorem d1_17 : decode prog_49_method_2_code 17 = .ok (.iconst 1, 1) := by decide +kernel
theorem d1_18 : decode prog_49_method_2_code 18 = .ok (.iushr, 1) := by decide +kernel
theorem d1_19 : decode prog_49_method_2_code 19 = .ok (.istore 4, 2) := by decide +kernel
theorem d1_21 : decode prog_49_method_2_code 21 = .ok (.aload_n 0, 1) := by decide +kernel
theorem d1_22 : decode prog_49_method_2_code 22 = .ok (.iconst 2, 1) := by decide +kernel
theorem d1_23 : decode prog_49_method_2_code 23 = .ok (.iload 4, 2) := by decide +kernel
theorem d1_25 : decode prog_49_method_2_code 25 = .ok (.imul, 1) := by decide +kernel
theorem d1_26 : decode prog_49_method_2_code 26 = .ok (.iaload, 1) := by decide +kernel
theorem d1_27 : decode prog_49_method_2_code 27 = .ok (.iload_n 1, 1) := by decide +kernel
theorem d1_28 : decode prog_49_method_2_code 28 = .ok (.if_icmp .gt 11, 3) := by decide +kernel
theorem d1_31 : decode prog_49_method_2_code 31 = .ok (.iload 4, 2) := by decide +kernel
theorem d1_33 : decode prog_49_method_2_code 33 = .ok (.iconst 1, 1) := by decide +kernel
theorem d1_34 : decode prog_49_method_2_code 34 = .ok (.iadd, 1) := by decide +kernel
theorem d1_35 : decode prog_49_method_2_code 35 = .ok (.istore_n 2, 1) := by decide +kernel
theorem d1_36 : decode prog_49_method_2_code 36 = .ok (.goto 8, 3) := by decide +kernel
theorem d1_39 : decode prog_49_method_2_code 39 = .ok (.iload 4, 2) := by decide +kernel
theorem d1_41 : decode prog_49_method_2_code 41 = .ok (.iconst 1, 1) := by decide +kernel
theorem d1_42 : decode prog_49_method_2_code 42 = .ok (.isub, 1) := by decide +kernel
theorem d1_43 : decode prog_49_method_2_code 43 = .ok (.istore_n 3, 1) := by decide +kernel
theorem d1_44 : decode prog_49_method_2_code 44 = .ok (.goto (-35), 3) := by decide +kernel
theorem d1_47 : decode prog_49_method_2_code 47 = .ok (.iload_n 3, 1) := by decide +kernel
theorem d1_48 : decode prog_49_method_2_code 48 = .ok (.ifCond .lt 18, 3) := by decide +kernel
theorem d1_51 : decode prog_49_method_2_code 51 = .ok (.iload_n 1, 1) := by decide +kernel
theorem d1_52 : decode prog_49_method_2_code 52 = .ok (.aload_n 0, 1) := by decide +kernel
theorem d1_53 : decode prog_49_method_2_code 53 = .ok (.iconst 2, 1) := by decide +kernel
theorem d1_54 : decode prog_49_method_2_code 54 = .ok (.iload_n 3, 1) := by decide +kernel
theorem d1_55 : decode prog_49_method_2_code 55 = .ok (.imul, 1) := by decide +kernel
theorem d1_56 : decode prog_49_method_2_code 56 = .ok (.iconst 1, 1) := by decide +kernel
theorem d1_57 : decode prog_49_method_2_code 57 = .ok (.iadd, 1) := by decide +kernel
theorem d1_58 : decode prog_49_method_2_code 58 = .ok (.iaload, 1) := by decide +kernel
theorem d1_59 : decode prog_49_method_2_code 59 = .ok (.if_icmp .gt 7, 3) := by decide +kernel
theorem d1_62 : decode prog_49_method_2_code 62 = .ok (.iconst 1, 1) := by decide +kernel
theorem d1_63 : decode prog_49_method_2_code 63 = .ok (.goto 4, 3) := by decide +kernel
theorem d1_66 : decode prog_49_method_2_code 66 = .ok (.iconst 0, 1) := by decide +kernel
theorem d1_67 : decode prog_49_method_2_code 67 = .ok (.ireturn, 1) := by decide +kernel
def K1_n0 (x1 : Int32) : Int32 :=
  (0 : Int32)
theorem ef_1 (m : MethodId) (ar : Addr) (x1 : Int32) : entryFrame m #[(.ref ar), (.int x1)] 5 = mkF m 0 #[.val (.ref ar), .val (.int x1), .unset, .unset, .unset] [] := by first | (simp [entryFrame, mkF, argsToLocals, Value.category]; done) | rfl
set_option maxRecDepth 65536 in
set_option maxHeartbeats 40000000 in
theorem rm1_n0 (l : Launch) (Z : State) (a0 : Array Value) (hw : ∀ d ∈ tables_1, d.before a0 Z = true) (ar : Addr) (x1 : Int32) (h0 : Heap) (n0 : Nat) (V_ar : AI Z h0 ar .int []) :
    Con l Z (⟨"com/example/facet/facet/regex/Ranges", "contains", "([II)Z"⟩ : MethodName) prog_49_method_2_code 5 (some .boolean) ({ frames := 0, cells := 0, slots := 0, locals := 0 } : Room) #[(.ref ar), (.int x1)] h0 (QP (some (.int (K1_n0 x1))) h0 n0) := by
  refine Con.of (plainFor_of_name (by first | (simp [plainName, overriddenIn]; done) | decide +kernel)) ?_
  intro p e s m below meth c T X hx hZ hby hml hown hnm hret hlk e0
  rw [ef_1, K1_n0]
  have N0 := Fr.nil n0
  refine w_iconst (v := 0) X hx (hb hby d1_0) (pc' := 1) rfl rfl ?_
  refine w_istoreN (Ls' := #[.val (.ref ar), .val (.int x1), .val (.int (0 : Int32)), .unset, .unset]) X hx (hb hby d1_1) (pc' := 2) rfl rfl ?_
  refine w_aloadN X hx (hb hby d1_2) (pc' := 3) rfl rfl rfl ?_
  refine w_alenI X hx hZ e0 V_ar (n := (0 : Int32)) rfl (hb hby d1_3) (pc' := 4) rfl ?_
  refine w_iconst (v := 2) X hx (hb hby d1_4) (pc' := 5) rfl rfl ?_
  refine w_idiv X hx (hb hby d1_5) (pc' := 6) rfl (by decide) ?_
  rw [show ((0 : Int32) / (2 : Int32)) = (0 : Int32) from by decide]
  refine w_iconst (v := 1) X hx (hb hby d1_6) (pc' := 7) rfl rfl ?_
  refine w_isub X hx (hb hby d1_7) (pc' := 8) rfl ?_
  rw [show ((0 : Int32) - (1 : Int32)) = (-1 : Int32) from by decide]
  refine w_istoreN (Ls' := #[.val (.ref ar), .val (.int x1), .val (.int (0 : Int32)), .val (.int (-1 : Int32)), .unset]) X hx (hb hby d1_8) (pc' := 9) rfl rfl ?_
  refine w_iloadN X hx (hb hby d1_9) (pc' := 10) rfl rfl ?_
  refine w_iloadN X hx (hb hby d1_10) (pc' := 11) rfl rfl ?_
  have hf11 : (-1 : Int32) < (0 : Int32) := (by decide)
  refine w_icmp_gt X hx (hb hby d1_11) (pf := 14) (pt := 47) rfl (by decide) (by decide) (fun hc11 => ?_) (fun hc => absurd hf11 hc)
  refine w_iloadN X hx (hb hby d1_47) (pc' := 48) rfl rfl ?_
  have hf48 : (-1 : Int32) < (0 : Int32) := (by decide)
  refine w_if_lt X hx (hb hby d1_48) (pf := 51) (pt := 66) rfl (by decide) (by decide) (fun hc48 => ?_) (fun hc => absurd hf48 hc)
  refine w_iconst (v := 0) X hx (hb hby d1_66) (pc' := 67) rfl rfl ?_
  exact w_retZ X hx hret hlk (hb hby d1_67) (by decide) (by decide) ⟨rfl, N0, e0⟩
def K1_n2 (y0 : Int32) (y1 : Int32) (x1 : Int32) : Int32 :=
  (if x1 < y0 then (0 : Int32)
  else (if y1 < x1 then (0 : Int32)
   else (1 : Int32)))
set_option maxRecDepth 65536 in
set_option maxHeartbeats 40000000 in
theorem rm1_n2 (l : Launch) (Z : State) (a0 : Array Value) (hw : ∀ d ∈ tables_1, d.before a0 Z = true) (ar : Addr) (x1 : Int32) (h0 : Heap) (n0 : Nat) (y0 : Int32) (y1 : Int32) (V_ar : AI Z h0 ar .int [y0, y1]) :
    Con l Z (⟨"com/example/facet/facet/regex/Ranges", "contains", "([II)Z"⟩ : MethodName) prog_49_method_2_code 5 (some .boolean) ({ frames := 0, cells := 0, slots := 0, locals := 0 } : Room) #[(.ref ar), (.int x1)] h0 (QP (some (.int (K1_n2 y0 y1 x1))) h0 n0) := by
  refine Con.of (plainFor_of_name (by first | (simp [plainName, overriddenIn]; done) | decide +kernel)) ?_
  intro p e s m below meth c T X hx hZ hby hml hown hnm hret hlk e0
  rw [ef_1, K1_n2]
  have N0 := Fr.nil n0
  refine w_iconst (v := 0) X hx (hb hby d1_0) (pc' := 1) rfl rfl ?_
  refine w_istoreN (Ls' := #[.val (.ref ar), .val (.int x1), .val (.int (0 : Int32)), .unset, .unset]) X hx (hb hby d1_1) (pc' := 2) rfl rfl ?_
  refine w_aloadN X hx (hb hby d1_2) (pc' := 3) rfl rfl rfl ?_
  refine w_alenI X hx hZ e0 V_ar (n := (2 : Int32)) rfl (hb hby d1_3) (pc' := 4) rfl ?_
  refine w_iconst (v := 2) X hx (hb hby d1_4) (pc' := 5) rfl rfl ?_
  refine w_idiv X hx (hb hby d1_5) (pc' := 6) rfl (by decide) ?_
  rw [show ((2 : Int32) / (2 : Int32)) = (1 : Int32) from by decide]
  refine w_iconst (v := 1) X hx (hb hby d1_6) (pc' := 7) rfl rfl ?_
  refine w_isub X hx (hb hby d1_7) (pc' := 8) rfl ?_
  rw [show ((1 : Int32) - (1 : Int32)) = (0 : Int32) from by decide]
  refine w_istoreN (Ls' := #[.val (.ref ar), .val (.int x1), .val (.int (0 : Int32)), .val (.int (0 : Int32)), .unset]) X hx (hb hby d1_8) (pc' := 9) rfl rfl ?_
  refine w_iloadN X hx (hb hby d1_9) (pc' := 10) rfl rfl ?_
  refine w_iloadN X hx (hb hby d1_10) (pc' := 11) rfl rfl ?_
  have hf11 : ¬ ((0 : Int32) < (0 : Int32)) := (by decide)
  refine w_icmp_gt X hx (hb hby d1_11) (pf := 14) (pt := 47) rfl (by decide) (by decide) (fun hc => absurd hc hf11) (fun hc11 => ?_)
  refine w_iloadN X hx (hb hby d1_14) (pc' := 15) rfl rfl ?_
  refine w_iloadN X hx (hb hby d1_15) (pc' := 16) rfl rfl ?_
  refine w_iadd X hx (hb hby d1_16) (pc' := 17) rfl ?_
  rw [show ((0 : Int32) + (0 : Int32)) = (0 : Int32) from by decide]
  refine w_iconst (v := 1) X hx (hb hby d1_17) (pc' := 18) rfl rfl ?_
  refine w_iushr X hx (hb hby d1_18) (pc' := 19) rfl ?_
  rw [show (jushr (0 : Int32) (1 : Int32)) = (0 : Int32) from by decide]
  refine w_istore (Ls' := #[.val (.ref ar), .val (.int x1), .val (.int (0 : Int32)), .val (.int (0 : Int32)), .val (.int (0 : Int32))]) X hx (hb hby d1_19) (pc' := 21) rfl rfl ?_
  refine w_aloadN X hx (hb hby d1_21) (pc' := 22) rfl rfl rfl ?_
  refine w_iconst (v := 2) X hx (hb hby d1_22) (pc' := 23) rfl rfl ?_
  refine w_iload X hx (hb hby d1_23) (pc' := 25) rfl rfl ?_
  refine w_imul X hx (hb hby d1_25) (pc' := 26) rfl ?_
  rw [show ((2 : Int32) * (0 : Int32)) = (0 : Int32) from by decide]
  refine w_iaload X hx hZ e0 V_ar (v := y0) (by decide) rfl (hb hby d1_26) (pc' := 27) rfl ?_
  refine w_iloadN X hx (hb hby d1_27) (pc' := 28) rfl rfl ?_
  refine w_icmp_gt X hx (hb hby d1_28) (pf := 31) (pt := 39) rfl (by decide) (by decide) (fun hc28 => ?_) (fun hc28 => ?_)
  · rw [if_pos hc28]
    refine w_iload X hx (hb hby d1_39) (pc' := 41) rfl rfl ?_
    refine w_iconst (v := 1) X hx (hb hby d1_41) (pc' := 42) rfl rfl ?_
    refine w_isub X hx (hb hby d1_42) (pc' := 43) rfl ?_
    rw [show ((0 : Int32) - (1 : Int32)) = (-1 : Int32) from by decide]
    refine w_istoreN (Ls' := #[.val (.ref ar), .val (.int x1), .val (.int (0 : Int32)), .val (.int (-1 : Int32)), .val (.int (0 : Int32))]) X hx (hb hby d1_43) (pc' := 44) rfl rfl ?_
    refine w_goto X hx (hb hby d1_44) (pc' := 9) (by decide) (by decide) ?_
    refine w_iloadN X hx (hb hby d1_9) (pc' := 10) rfl rfl ?_
    refine w_iloadN X hx (hb hby d1_10) (pc' := 11) rfl rfl ?_
    have hf11 : (-1 : Int32) < (0 : Int32) := (by decide)
    refine w_icmp_gt X hx (hb hby d1_11) (pf := 14) (pt := 47) rfl (by decide) (by decide) (fun hc11 => ?_) (fun hc => absurd hf11 hc)
    refine w_iloadN X hx (hb hby d1_47) (pc' := 48) rfl rfl ?_
    have hf48 : (-1 : Int32) < (0 : Int32) := (by decide)
    refine w_if_lt X hx (hb hby d1_48) (pf := 51) (pt := 66) rfl (by decide) (by decide) (fun hc48 => ?_) (fun hc => absurd hf48 hc)
    refine w_iconst (v := 0) X hx (hb hby d1_66) (pc' := 67) rfl rfl ?_
    exact w_retZ X hx hret hlk (hb hby d1_67) (by decide) (by decide) ⟨rfl, N0, e0⟩
  · rw [if_neg hc28]
    refine w_iload X hx (hb hby d1_31) (pc' := 33) rfl rfl ?_
    refine w_iconst (v := 1) X hx (hb hby d1_33) (pc' := 34) rfl rfl ?_
    refine w_iadd X hx (hb hby d1_34) (pc' := 35) rfl ?_
    rw [show ((0 : Int32) + (1 : Int32)) = (1 : Int32) from by decide]
    refine w_istoreN (Ls' := #[.val (.ref ar), .val (.int x1), .val (.int (1 : Int32)), .val (.int (0 : Int32)), .val (.int (0 : Int32))]) X hx (hb hby d1_35) (pc' := 36) rfl rfl ?_
    refine w_goto X hx (hb hby d1_36) (pc' := 44) (by decide) (by decide) ?_
    refine w_goto X hx (hb hby d1_44) (pc' := 9) (by decide) (by decide) ?_
    refine w_iloadN X hx (hb hby d1_9) (pc' := 10) rfl rfl ?_
    refine w_iloadN X hx (hb hby d1_10) (pc' := 11) rfl rfl ?_
    have hf11 : (0 : Int32) < (1 : Int32) := (by decide)
    refine w_icmp_gt X hx (hb hby d1_11) (pf := 14) (pt := 47) rfl (by decide) (by decide) (fun hc11 => ?_) (fun hc => absurd hf11 hc)
    refine w_iloadN X hx (hb hby d1_47) (pc' := 48) rfl rfl ?_
    have hf48 : ¬ ((0 : Int32) < (0 : Int32)) := (by decide)
    refine w_if_lt X hx (hb hby d1_48) (pf := 51) (pt := 66) rfl (by decide) (by decide) (fun hc => absurd hc hf48) (fun hc48 => ?_)
    refine w_iloadN X hx (hb hby d1_51) (pc' := 52) rfl rfl ?_
    refine w_aloadN X hx (hb hby d1_52) (pc' := 53) rfl rfl rfl ?_
    refine w_iconst (v := 2) X hx (hb hby d1_53) (pc' := 54) rfl rfl ?_
    refine w_iloadN X hx (hb hby d1_54) (pc' := 55) rfl rfl ?_
    refine w_imul X hx (hb hby d1_55) (pc' := 56) rfl ?_
    rw [show ((2 : Int32) * (0 : Int32)) = (0 : Int32) from by decide]
    refine w_iconst (v := 1) X hx (hb hby d1_56) (pc' := 57) rfl rfl ?_
    refine w_iadd X hx (hb hby d1_57) (pc' := 58) rfl ?_
    rw [show ((0 : Int32) + (1 : Int32)) = (1 : Int32) from by decide]
    refine w_iaload X hx hZ e0 V_ar (v := y1) (by decide) rfl (hb hby d1_58) (pc' := 59) rfl ?_
    refine w_icmp_gt X hx (hb hby d1_59) (pf := 62) (pt := 66) rfl (by decide) (by decide) (fun hc59 => ?_) (fun hc59 => ?_)
    · rw [if_pos hc59]
      refine w_iconst (v := 0) X hx (hb hby d1_66) (pc' := 67) rfl rfl ?_
      exact w_retZ X hx hret hlk (hb hby d1_67) (by decide) (by decide) ⟨rfl, N0, e0⟩
    · rw [if_neg hc59]
      refine w_iconst (v := 1) X hx (hb hby d1_62) (pc' := 63) rfl rfl ?_
      refine w_goto X hx (hb hby d1_63) (pc' := 67) (by decide) (by decide) ?_
      exact w_retZ X hx hret hlk (hb hby d1_67) (by decide) (by decide) ⟨rfl, N0, e0⟩
def K1_n4 (y0 : Int32) (y1 : Int32) (y2 : Int32) (y3 : Int32) (x1 : Int32) : Int32 :=
  (if x1 < y0 then (0 : Int32)
  else (if x1 < y2 then (if y1 < x1 then (0 : Int32)
    else (1 : Int32))
   else (if y3 < x1 then (0 : Int32)
    else (1 : Int32))))
set_option maxRecDepth 65536 in
set_option maxHeartbeats 40000000 in
theorem rm1_n4 (l : Launch) (Z : State) (a0 : Array Value) (hw : ∀ d ∈ tables_1, d.before a0 Z = true) (ar : Addr) (x1 : Int32) (h0 : Heap) (n0 : Nat) (y0 : Int32) (y1 : Int32) (y2 : Int32) (y3 : Int32) (V_ar : AI Z h0 ar .int [y0, y1, y2, y3]) :
    Con l Z (⟨"com/example/facet/facet/regex/Ranges", "contains", "([II)Z"⟩ : MethodName) prog_49_method_2_code 5 (some .boolean) ({ frames := 0, cells := 0, slots := 0, locals := 0 } : Room) #[(.ref ar), (.int x1)] h0 (QP (some (.int (K1_n4 y0 y1 y2 y3 x1))) h0 n0) := by
  refine Con.of (plainFor_of_name (by first | (simp [plainName, overriddenIn]; done) | decide +kernel)) ?_
  intro p e s m below meth c T X hx hZ hby hml hown hnm hret hlk e0
  rw [ef_1, K1_n4]
  have N0 := Fr.nil n0
  refine w_iconst (v := 0) X hx (hb hby d1_0) (pc' := 1) rfl rfl ?_
  refine w_istoreN (Ls' := #[.val (.ref ar), .val (.int x1), .val (.int (0 : Int32)), .unset, .unset]) X hx (hb hby d1_1) (pc' := 2) rfl rfl ?_
  refine w_aloadN X hx (hb hby d1_2) (pc' := 3) rfl rfl rfl ?_
  refine w_alenI X hx hZ e0 V_ar (n := (4 : Int32)) rfl (hb hby d1_3) (pc' := 4) rfl ?_
  refine w_iconst (v := 2) X hx (hb hby d1_4) (pc' := 5) rfl rfl ?_
  refine w_idiv X hx (hb hby d1_5) (pc' := 6) rfl (by decide) ?_
  rw [show ((4 : Int32) / (2 : Int32)) = (2 : Int32) from by decide]
  refine w_iconst (v := 1) X hx (hb hby d1_6) (pc' := 7) rfl rfl ?_
  refine w_isub X hx (hb hby d1_7) (pc' := 8) rfl ?_
  rw [show ((2 : Int32) - (1 : Int32)) = (1 : Int32) from by decide]
  refine w_istoreN (Ls' := #[.val (.ref ar), .val (.int x1), .val (.int (0 : Int32)), .val (.int (1 : Int32)), .unset]) X hx (hb hby d1_8) (pc' := 9) rfl rfl ?_
  refine w_iloadN X hx (hb hby d1_9) (pc' := 10) rfl rfl ?_
  refine w_iloadN X hx (hb hby d1_10) (pc' := 11) rfl rfl ?_
  have hf11 : ¬ ((1 : Int32) < (0 : Int32)) := (by decide)
  refine w_icmp_gt X hx (hb hby d1_11) (pf := 14) (pt := 47) rfl (by decide) (by decide) (fun hc => absurd hc hf11) (fun hc11 => ?_)
  refine w_iloadN X hx (hb hby d1_14) (pc' := 15) rfl rfl ?_
  refine w_iloadN X hx (hb hby d1_15) (pc' := 16) rfl rfl ?_
  refine w_iadd X hx (hb hby d1_16) (pc' := 17) rfl ?_
  rw [show ((0 : Int32) + (1 : Int32)) = (1 : Int32) from by decide]
  refine w_iconst (v := 1) X hx (hb hby d1_17) (pc' := 18) rfl rfl ?_
  refine w_iushr X hx (hb hby d1_18) (pc' := 19) rfl ?_
  rw [show (jushr (1 : Int32) (1 : Int32)) = (0 : Int32) from by decide]
  refine w_istore (Ls' := #[.val (.ref ar), .val (.int x1), .val (.int (0 : Int32)), .val (.int (1 : Int32)), .val (.int (0 : Int32))]) X hx (hb hby d1_19) (pc' := 21) rfl rfl ?_
  refine w_aloadN X hx (hb hby d1_21) (pc' := 22) rfl rfl rfl ?_
  refine w_iconst (v := 2) X hx (hb hby d1_22) (pc' := 23) rfl rfl ?_
  refine w_iload X hx (hb hby d1_23) (pc' := 25) rfl rfl ?_
  refine w_imul X hx (hb hby d1_25) (pc' := 26) rfl ?_
  rw [show ((2 : Int32) * (0 : Int32)) = (0 : Int32) from by decide]
  refine w_iaload X hx hZ e0 V_ar (v := y0) (by decide) rfl (hb hby d1_26) (pc' := 27) rfl ?_
  refine w_iloadN X hx (hb hby d1_27) (pc' := 28) rfl rfl ?_
  refine w_icmp_gt X hx (hb hby d1_28) (pf := 31) (pt := 39) rfl (by decide) (by decide) (fun hc28 => ?_) (fun hc28 => ?_)
  · rw [if_pos hc28]
    refine w_iload X hx (hb hby d1_39) (pc' := 41) rfl rfl ?_
    refine w_iconst (v := 1) X hx (hb hby d1_41) (pc' := 42) rfl rfl ?_
    refine w_isub X hx (hb hby d1_42) (pc' := 43) rfl ?_
    rw [show ((0 : Int32) - (1 : Int32)) = (-1 : Int32) from by decide]
    refine w_istoreN (Ls' := #[.val (.ref ar), .val (.int x1), .val (.int (0 : Int32)), .val (.int (-1 : Int32)), .val (.int (0 : Int32))]) X hx (hb hby d1_43) (pc' := 44) rfl rfl ?_
    refine w_goto X hx (hb hby d1_44) (pc' := 9) (by decide) (by decide) ?_
    refine w_iloadN X hx (hb hby d1_9) (pc' := 10) rfl rfl ?_
    refine w_iloadN X hx (hb hby d1_10) (pc' := 11) rfl rfl ?_
    have hf11 : (-1 : Int32) < (0 : Int32) := (by decide)
    refine w_icmp_gt X hx (hb hby d1_11) (pf := 14) (pt := 47) rfl (by decide) (by decide) (fun hc11 => ?_) (fun hc => absurd hf11 hc)
    refine w_iloadN X hx (hb hby d1_47) (pc' := 48) rfl rfl ?_
    have hf48 : (-1 : Int32) < (0 : Int32) := (by decide)
    refine w_if_lt X hx (hb hby d1_48) (pf := 51) (pt := 66) rfl (by decide) (by decide) (fun hc48 => ?_) (fun hc => absurd hf48 hc)
    refine w_iconst (v := 0) X hx (hb hby d1_66) (pc' := 67) rfl rfl ?_
    exact w_retZ X hx hret hlk (hb hby d1_67) (by decide) (by decide) ⟨rfl, N0, e0⟩
  · rw [if_neg hc28]
    refine w_iload X hx (hb hby d1_31) (pc' := 33) rfl rfl ?_
    refine w_iconst (v := 1) X hx (hb hby d1_33) (pc' := 34) rfl rfl ?_
    refine w_iadd X hx (hb hby d1_34) (pc' := 35) rfl ?_
    rw [show ((0 : Int32) + (1 : Int32)) = (1 : Int32) from by decide]
    refine w_istoreN (Ls' := #[.val (.ref ar), .val (.int x1), .val (.int (1 : Int32)), .val (.int (1 : Int32)), .val (.int (0 : Int32))]) X hx (hb hby d1_35) (pc' := 36) rfl rfl ?_
    refine w_goto X hx (hb hby d1_36) (pc' := 44) (by decide) (by decide) ?_
    refine w_goto X hx (hb hby d1_44) (pc' := 9) (by decide) (by decide) ?_
    refine w_iloadN X hx (hb hby d1_9) (pc' := 10) rfl rfl ?_
    refine w_iloadN X hx (hb hby d1_10) (pc' := 11) rfl rfl ?_
    have hf11 : ¬ ((1 : Int32) < (1 : Int32)) := (by decide)
    refine w_icmp_gt X hx (hb hby d1_11) (pf := 14) (pt := 47) rfl (by decide) (by decide) (fun hc => absurd hc hf11) (fun hc11 => ?_)
    refine w_iloadN X hx (hb hby d1_14) (pc' := 15) rfl rfl ?_
    refine w_iloadN X hx (hb hby d1_15) (pc' := 16) rfl rfl ?_
    refine w_iadd X hx (hb hby d1_16) (pc' := 17) rfl ?_
    rw [show ((1 : Int32) + (1 : Int32)) = (2 : Int32) from by decide]
    refine w_iconst (v := 1) X hx (hb hby d1_17) (pc' := 18) rfl rfl ?_
    refine w_iushr X hx (hb hby d1_18) (pc' := 19) rfl ?_
    rw [show (jushr (2 : Int32) (1 : Int32)) = (1 : Int32) from by decide]
    refine w_istore (Ls' := #[.val (.ref ar), .val (.int x1), .val (.int (1 : Int32)), .val (.int (1 : Int32)), .val (.int (1 : Int32))]) X hx (hb hby d1_19) (pc' := 21) rfl rfl ?_
    refine w_aloadN X hx (hb hby d1_21) (pc' := 22) rfl rfl rfl ?_
    refine w_iconst (v := 2) X hx (hb hby d1_22) (pc' := 23) rfl rfl ?_
    refine w_iload X hx (hb hby d1_23) (pc' := 25) rfl rfl ?_
    refine w_imul X hx (hb hby d1_25) (pc' := 26) rfl ?_
    rw [show ((2 : Int32) * (1 : Int32)) = (2 : Int32) from by decide]
    refine w_iaload X hx hZ e0 V_ar (v := y2) (by decide) rfl (hb hby d1_26) (pc' := 27) rfl ?_
    refine w_iloadN X hx (hb hby d1_27) (pc' := 28) rfl rfl ?_
    refine w_icmp_gt X hx (hb hby d1_28) (pf := 31) (pt := 39) rfl (by decide) (by decide) (fun hc28 => ?_) (fun hc28 => ?_)
    · rw [if_pos hc28]
      refine w_iload X hx (hb hby d1_39) (pc' := 41) rfl rfl ?_
      refine w_iconst (v := 1) X hx (hb hby d1_41) (pc' := 42) rfl rfl ?_
      refine w_isub X hx (hb hby d1_42) (pc' := 43) rfl ?_
      rw [show ((1 : Int32) - (1 : Int32)) = (0 : Int32) from by decide]
      refine w_istoreN (Ls' := #[.val (.ref ar), .val (.int x1), .val (.int (1 : Int32)), .val (.int (0 : Int32)), .val (.int (1 : Int32))]) X hx (hb hby d1_43) (pc' := 44) rfl rfl ?_
      refine w_goto X hx (hb hby d1_44) (pc' := 9) (by decide) (by decide) ?_
      refine w_iloadN X hx (hb hby d1_9) (pc' := 10) rfl rfl ?_
      refine w_iloadN X hx (hb hby d1_10) (pc' := 11) rfl rfl ?_
      have hf11 : (0 : Int32) < (1 : Int32) := (by decide)
      refine w_icmp_gt X hx (hb hby d1_11) (pf := 14) (pt := 47) rfl (by decide) (by decide) (fun hc11 => ?_) (fun hc => absurd hf11 hc)
      refine w_iloadN X hx (hb hby d1_47) (pc' := 48) rfl rfl ?_
      have hf48 : ¬ ((0 : Int32) < (0 : Int32)) := (by decide)
      refine w_if_lt X hx (hb hby d1_48) (pf := 51) (pt := 66) rfl (by decide) (by decide) (fun hc => absurd hc hf48) (fun hc48 => ?_)
      refine w_iloadN X hx (hb hby d1_51) (pc' := 52) rfl rfl ?_
      refine w_aloadN X hx (hb hby d1_52) (pc' := 53) rfl rfl rfl ?_
      refine w_iconst (v := 2) X hx (hb hby d1_53) (pc' := 54) rfl rfl ?_
      refine w_iloadN X hx (hb hby d1_54) (pc' := 55) rfl rfl ?_
      refine w_imul X hx (hb hby d1_55) (pc' := 56) rfl ?_
      rw [show ((2 : Int32) * (0 : Int32)) = (0 : Int32) from by decide]
      refine w_iconst (v := 1) X hx (hb hby d1_56) (pc' := 57) rfl rfl ?_
      refine w_iadd X hx (hb hby d1_57) (pc' := 58) rfl ?_
      rw [show ((0 : Int32) + (1 : Int32)) = (1 : Int32) from by decide]
      refine w_iaload X hx hZ e0 V_ar (v := y1) (by decide) rfl (hb hby d1_58) (pc' := 59) rfl ?_
      refine w_icmp_gt X hx (hb hby d1_59) (pf := 62) (pt := 66) rfl (by decide) (by decide) (fun hc59 => ?_) (fun hc59 => ?_)
      · rw [if_pos hc59]
        refine w_iconst (v := 0) X hx (hb hby d1_66) (pc' := 67) rfl rfl ?_
        exact w_retZ X hx hret hlk (hb hby d1_67) (by decide) (by decide) ⟨rfl, N0, e0⟩
      · rw [if_neg hc59]
        refine w_iconst (v := 1) X hx (hb hby d1_62) (pc' := 63) rfl rfl ?_
        refine w_goto X hx (hb hby d1_63) (pc' := 67) (by decide) (by decide) ?_
        exact w_retZ X hx hret hlk (hb hby d1_67) (by decide) (by decide) ⟨rfl, N0, e0⟩
    · rw [if_neg hc28]
      refine w_iload X hx (hb hby d1_31) (pc' := 33) rfl rfl ?_
      refine w_iconst (v := 1) X hx (hb hby d1_33) (pc' := 34) rfl rfl ?_
      refine w_iadd X hx (hb hby d1_34) (pc' := 35) rfl ?_
      rw [show ((1 : Int32) + (1 : Int32)) = (2 : Int32) from by decide]
      refine w_istoreN (Ls' := #[.val (.ref ar), .val (.int x1), .val (.int (2 : Int32)), .val (.int (1 : Int32)), .val (.int (1 : Int32))]) X hx (hb hby d1_35) (pc' := 36) rfl rfl ?_
      refine w_goto X hx (hb hby d1_36) (pc' := 44) (by decide) (by decide) ?_
      refine w_goto X hx (hb hby d1_44) (pc' := 9) (by decide) (by decide) ?_
      refine w_iloadN X hx (hb hby d1_9) (pc' := 10) rfl rfl ?_
      refine w_iloadN X hx (hb hby d1_10) (pc' := 11) rfl rfl ?_
      have hf11 : (1 : Int32) < (2 : Int32) := (by decide)
      refine w_icmp_gt X hx (hb hby d1_11) (pf := 14) (pt := 47) rfl (by decide) (by decide) (fun hc11 => ?_) (fun hc => absurd hf11 hc)
      refine w_iloadN X hx (hb hby d1_47) (pc' := 48) rfl rfl ?_
      have hf48 : ¬ ((1 : Int32) < (0 : Int32)) := (by decide)
      refine w_if_lt X hx (hb hby d1_48) (pf := 51) (pt := 66) rfl (by decide) (by decide) (fun hc => absurd hc hf48) (fun hc48 => ?_)
      refine w_iloadN X hx (hb hby d1_51) (pc' := 52) rfl rfl ?_
      refine w_aloadN X hx (hb hby d1_52) (pc' := 53) rfl rfl rfl ?_
      refine w_iconst (v := 2) X hx (hb hby d1_53) (pc' := 54) rfl rfl ?_
      refine w_iloadN X hx (hb hby d1_54) (pc' := 55) rfl rfl ?_
      refine w_imul X hx (hb hby d1_55) (pc' := 56) rfl ?_
      rw [show ((2 : Int32) * (1 : Int32)) = (2 : Int32) from by decide]
      refine w_iconst (v := 1) X hx (hb hby d1_56) (pc' := 57) rfl rfl ?_
      refine w_iadd X hx (hb hby d1_57) (pc' := 58) rfl ?_
      rw [show ((2 : Int32) + (1 : Int32)) = (3 : Int32) from by decide]
      refine w_iaload X hx hZ e0 V_ar (v := y3) (by decide) rfl (hb hby d1_58) (pc' := 59) rfl ?_
      refine w_icmp_gt X hx (hb hby d1_59) (pf := 62) (pt := 66) rfl (by decide) (by decide) (fun hc59 => ?_) (fun hc59 => ?_)
      · rw [if_pos hc59]
        refine w_iconst (v := 0) X hx (hb hby d1_66) (pc' := 67) rfl rfl ?_
        exact w_retZ X hx hret hlk (hb hby d1_67) (by decide) (by decide) ⟨rfl, N0, e0⟩
      · rw [if_neg hc59]
        refine w_iconst (v := 1) X hx (hb hby d1_62) (pc' := 63) rfl rfl ?_
        refine w_goto X hx (hb hby d1_63) (pc' := 67) (by decide) (by decide) ?_
        exact w_retZ X hx hret hlk (hb hby d1_67) (by decide) (by decide) ⟨rfl, N0, e0⟩
def K1_n6 (y0 : Int32) (y1 : Int32) (y2 : Int32) (y3 : Int32) (y4 : Int32) (y5 : Int32) (x1 : Int32) : Int32 :=
  (if x1 < y2 then (if x1 < y0 then (0 : Int32)
   else (if y1 < x1 then (0 : Int32)
    else (1 : Int32)))
  else (if x1 < y4 then (if y3 < x1 then (0 : Int32)
    else (1 : Int32))
   else (if y5 < x1 then (0 : Int32)
    else (1 : Int32))))
set_option maxRecDepth 65536 in
set_option maxHeartbeats 40000000 in
theorem rm1_n6 (l : Launch) (Z : State) (a0 : Array Value) (hw : ∀ d ∈ tables_1, d.before a0 Z = true) (ar : Addr) (x1 : Int32) (h0 : Heap) (n0 : Nat) (y0 : Int32) (y1 : Int32) (y2 : Int32) (y3 : Int32) (y4 : Int32) (y5 : Int32) (V_ar : AI Z h0 ar .int [y0, y1, y2, y3, y4, y5]) :
    Con l Z (⟨"com/example/facet/facet/regex/Ranges", "contains", "([II)Z"⟩ : MethodName) prog_49_method_2_code 5 (some .boolean) ({ frames := 0, cells := 0, slots := 0, locals := 0 } : Room) #[(.ref ar), (.int x1)] h0 (QP (some (.int (K1_n6 y0 y1 y2 y3 y4 y5 x1))) h0 n0) := by
  refine Con.of (plainFor_of_name (by first | (simp [plainName, overriddenIn]; done) | decide +kernel)) ?_
  intro p e s m below meth c T X hx hZ hby hml hown hnm hret hlk e0
  rw [ef_1, K1_n6]
  have N0 := Fr.nil n0
  refine w_iconst (v := 0) X hx (hb hby d1_0) (pc' := 1) rfl rfl ?_
  refine w_istoreN (Ls' := #[.val (.ref ar), .val (.int x1), .val (.int (0 : Int32)), .unset, .unset]) X hx (hb hby d1_1) (pc' := 2) rfl rfl ?_
  refine w_aloadN X hx (hb hby d1_2) (pc' := 3) rfl rfl rfl ?_
  refine w_alenI X hx hZ e0 V_ar (n := (6 : Int32)) rfl (hb hby d1_3) (pc' := 4) rfl ?_
  refine w_iconst (v := 2) X hx (hb hby d1_4) (pc' := 5) rfl rfl ?_
  refine w_idiv X hx (hb hby d1_5) (pc' := 6) rfl (by decide) ?_
  rw [show ((6 : Int32) / (2 : Int32)) = (3 : Int32) from by decide]
  refine w_iconst (v := 1) X hx (hb hby d1_6) (pc' := 7) rfl rfl ?_
  refine w_isub X hx (hb hby d1_7) (pc' := 8) rfl ?_
  rw [show ((3 : Int32) - (1 : Int32)) = (2 : Int32) from by decide]
  refine w_istoreN (Ls' := #[.val (.ref ar), .val (.int x1), .val (.int (0 : Int32)), .val (.int (2 : Int32)), .unset]) X hx (hb hby d1_8) (pc' := 9) rfl rfl ?_
  refine w_iloadN X hx (hb hby d1_9) (pc' := 10) rfl rfl ?_
  refine w_iloadN X hx (hb hby d1_10) (pc' := 11) rfl rfl ?_
  have hf11 : ¬ ((2 : Int32) < (0 : Int32)) := (by decide)
  refine w_icmp_gt X hx (hb hby d1_11) (pf := 14) (pt := 47) rfl (by decide) (by decide) (fun hc => absurd hc hf11) (fun hc11 => ?_)
  refine w_iloadN X hx (hb hby d1_14) (pc' := 15) rfl rfl ?_
  refine w_iloadN X hx (hb hby d1_15) (pc' := 16) rfl rfl ?_
  refine w_iadd X hx (hb hby d1_16) (pc' := 17) rfl ?_
  rw [show ((0 : Int32) + (2 : Int32)) = (2 : Int32) from by decide]
  refine w_iconst (v := 1) X hx (hb hby d1_17) (pc' := 18) rfl rfl ?_
  refine w_iushr X hx (hb hby d1_18) (pc' := 19) rfl ?_
  rw [show (jushr (2 : Int32) (1 : Int32)) = (1 : Int32) from by decide]
  refine w_istore (Ls' := #[.val (.ref ar), .val (.int x1), .val (.int (0 : Int32)), .val (.int (2 : Int32)), .val (.int (1 : Int32))]) X hx (hb hby d1_19) (pc' := 21) rfl rfl ?_
  refine w_aloadN X hx (hb hby d1_21) (pc' := 22) rfl rfl rfl ?_
  refine w_iconst (v := 2) X hx (hb hby d1_22) (pc' := 23) rfl rfl ?_
  refine w_iload X hx (hb hby d1_23) (pc' := 25) rfl rfl ?_
  refine w_imul X hx (hb hby d1_25) (pc' := 26) rfl ?_
  rw [show ((2 : Int32) * (1 : Int32)) = (2 : Int32) from by decide]
  refine w_iaload X hx hZ e0 V_ar (v := y2) (by decide) rfl (hb hby d1_26) (pc' := 27) rfl ?_
  refine w_iloadN X hx (hb hby d1_27) (pc' := 28) rfl rfl ?_
  refine w_icmp_gt X hx (hb hby d1_28) (pf := 31) (pt := 39) rfl (by decide) (by decide) (fun hc28 => ?_) (fun hc28 => ?_)
  · rw [if_pos hc28]
    refine w_iload X hx (hb hby d1_39) (pc' := 41) rfl rfl ?_
    refine w_iconst (v := 1) X hx (hb hby d1_41) (pc' := 42) rfl rfl ?_
    refine w_isub X hx (hb hby d1_42) (pc' := 43) rfl ?_
    rw [show ((1 : Int32) - (1 : Int32)) = (0 : Int32) from by decide]
    refine w_istoreN (Ls' := #[.val (.ref ar), .val (.int x1), .val (.int (0 : Int32)), .val (.int (0 : Int32)), .val (.int (1 : Int32))]) X hx (hb hby d1_43) (pc' := 44) rfl rfl ?_
    refine w_goto X hx (hb hby d1_44) (pc' := 9) (by decide) (by decide) ?_
    refine w_iloadN X hx (hb hby d1_9) (pc' := 10) rfl rfl ?_
    refine w_iloadN X hx (hb hby d1_10) (pc' := 11) rfl rfl ?_
    have hf11 : ¬ ((0 : Int32) < (0 : Int32)) := (by decide)
    refine w_icmp_gt X hx (hb hby d1_11) (pf := 14) (pt := 47) rfl (by decide) (by decide) (fun hc => absurd hc hf11) (fun hc11 => ?_)
    refine w_iloadN X hx (hb hby d1_14) (pc' := 15) rfl rfl ?_
    refine w_iloadN X hx (hb hby d1_15) (pc' := 16) rfl rfl ?_
    refine w_iadd X hx (hb hby d1_16) (pc' := 17) rfl ?_
    rw [show ((0 : Int32) + (0 : Int32)) = (0 : Int32) from by decide]
    refine w_iconst (v := 1) X hx (hb hby d1_17) (pc' := 18) rfl rfl ?_
    refine w_iushr X hx (hb hby d1_18) (pc' := 19) rfl ?_
    rw [show (jushr (0 : Int32) (1 : Int32)) = (0 : Int32) from by decide]
    refine w_istore (Ls' := #[.val (.ref ar), .val (.int x1), .val (.int (0 : Int32)), .val (.int (0 : Int32)), .val (.int (0 : Int32))]) X hx (hb hby d1_19) (pc' := 21) rfl rfl ?_
    refine w_aloadN X hx (hb hby d1_21) (pc' := 22) rfl rfl rfl ?_
    refine w_iconst (v := 2) X hx (hb hby d1_22) (pc' := 23) rfl rfl ?_
    refine w_iload X hx (hb hby d1_23) (pc' := 25) rfl rfl ?_
    refine w_imul X hx (hb hby d1_25) (pc' := 26) rfl ?_
    rw [show ((2 : Int32) * (0 : Int32)) = (0 : Int32) from by decide]
    refine w_iaload X hx hZ e0 V_ar (v := y0) (by decide) rfl (hb hby d1_26) (pc' := 27) rfl ?_
    refine w_iloadN X hx (hb hby d1_27) (pc' := 28) rfl rfl ?_
    refine w_icmp_gt X hx (hb hby d1_28) (pf := 31) (pt := 39) rfl (by decide) (by decide) (fun hc28 => ?_) (fun hc28 => ?_)
    · rw [if_pos hc28]
      refine w_iload X hx (hb hby d1_39) (pc' := 41) rfl rfl ?_
      refine w_iconst (v := 1) X hx (hb hby d1_41) (pc' := 42) rfl rfl ?_
      refine w_isub X hx (hb hby d1_42) (pc' := 43) rfl ?_
      rw [show ((0 : Int32) - (1 : Int32)) = (-1 : Int32) from by decide]
      refine w_istoreN (Ls' := #[.val (.ref ar), .val (.int x1), .val (.int (0 : Int32)), .val (.int (-1 : Int32)), .val (.int (0 : Int32))]) X hx (hb hby d1_43) (pc' := 44) rfl rfl ?_
      refine w_goto X hx (hb hby d1_44) (pc' := 9) (by decide) (by decide) ?_
      refine w_iloadN X hx (hb hby d1_9) (pc' := 10) rfl rfl ?_
      refine w_iloadN X hx (hb hby d1_10) (pc' := 11) rfl rfl ?_
      have hf11 : (-1 : Int32) < (0 : Int32) := (by decide)
      refine w_icmp_gt X hx (hb hby d1_11) (pf := 14) (pt := 47) rfl (by decide) (by decide) (fun hc11 => ?_) (fun hc => absurd hf11 hc)
      refine w_iloadN X hx (hb hby d1_47) (pc' := 48) rfl rfl ?_
      have hf48 : (-1 : Int32) < (0 : Int32) := (by decide)
      refine w_if_lt X hx (hb hby d1_48) (pf := 51) (pt := 66) rfl (by decide) (by decide) (fun hc48 => ?_) (fun hc => absurd hf48 hc)
      refine w_iconst (v := 0) X hx (hb hby d1_66) (pc' := 67) rfl rfl ?_
      exact w_retZ X hx hret hlk (hb hby d1_67) (by decide) (by decide) ⟨rfl, N0, e0⟩
    · rw [if_neg hc28]
      refine w_iload X hx (hb hby d1_31) (pc' := 33) rfl rfl ?_
      refine w_iconst (v := 1) X hx (hb hby d1_33) (pc' := 34) rfl rfl ?_
      refine w_iadd X hx (hb hby d1_34) (pc' := 35) rfl ?_
      rw [show ((0 : Int32) + (1 : Int32)) = (1 : Int32) from by decide]
      refine w_istoreN (Ls' := #[.val (.ref ar), .val (.int x1), .val (.int (1 : Int32)), .val (.int (0 : Int32)), .val (.int (0 : Int32))]) X hx (hb hby d1_35) (pc' := 36) rfl rfl ?_
      refine w_goto X hx (hb hby d1_36) (pc' := 44) (by decide) (by decide) ?_
      refine w_goto X hx (hb hby d1_44) (pc' := 9) (by decide) (by decide) ?_
      refine w_iloadN X hx (hb hby d1_9) (pc' := 10) rfl rfl ?_
      refine w_iloadN X hx (hb hby d1_10) (pc' := 11) rfl rfl ?_
      have hf11 : (0 : Int32) < (1 : Int32) := (by decide)
      refine w_icmp_gt X hx (hb hby d1_11) (pf := 14) (pt := 47) rfl (by decide) (by decide) (fun hc11 => ?_) (fun hc => absurd hf11 hc)
      refine w_iloadN X hx (hb hby d1_47) (pc' := 48) rfl rfl ?_
      have hf48 : ¬ ((0 : Int32) < (0 : Int32)) := (by decide)
      refine w_if_lt X hx (hb hby d1_48) (pf := 51) (pt := 66) rfl (by decide) (by decide) (fun hc => absurd hc hf48) (fun hc48 => ?_)
      refine w_iloadN X hx (hb hby d1_51) (pc' := 52) rfl rfl ?_
      refine w_aloadN X hx (hb hby d1_52) (pc' := 53) rfl rfl rfl ?_
      refine w_iconst (v := 2) X hx (hb hby d1_53) (pc' := 54) rfl rfl ?_
      refine w_iloadN X hx (hb hby d1_54) (pc' := 55) rfl rfl ?_
      refine w_imul X hx (hb hby d1_55) (pc' := 56) rfl ?_
      rw [show ((2 : Int32) * (0 : Int32)) = (0 : Int32) from by decide]
      refine w_iconst (v := 1) X hx (hb hby d1_56) (pc' := 57) rfl rfl ?_
      refine w_iadd X hx (hb hby d1_57) (pc' := 58) rfl ?_
      rw [show ((0 : Int32) + (1 : Int32)) = (1 : Int32) from by decide]
      refine w_iaload X hx hZ e0 V_ar (v := y1) (by decide) rfl (hb hby d1_58) (pc' := 59) rfl ?_
      refine w_icmp_gt X hx (hb hby d1_59) (pf := 62) (pt := 66) rfl (by decide) (by decide) (fun hc59 => ?_) (fun hc59 => ?_)
      · rw [if_pos hc59]
        refine w_iconst (v := 0) X hx (hb hby d1_66) (pc' := 67) rfl rfl ?_
        exact w_retZ X hx hret hlk (hb hby d1_67) (by decide) (by decide) ⟨rfl, N0, e0⟩
      · rw [if_neg hc59]
        refine w_iconst (v := 1) X hx (hb hby d1_62) (pc' := 63) rfl rfl ?_
        refine w_goto X hx (hb hby d1_63) (pc' := 67) (by decide) (by decide) ?_
        exact w_retZ X hx hret hlk (hb hby d1_67) (by decide) (by decide) ⟨rfl, N0, e0⟩
  · rw [if_neg hc28]
    refine w_iload X hx (hb hby d1_31) (pc' := 33) rfl rfl ?_
    refine w_iconst (v := 1) X hx (hb hby d1_33) (pc' := 34) rfl rfl ?_
    refine w_iadd X hx (hb hby d1_34) (pc' := 35) rfl ?_
    rw [show ((1 : Int32) + (1 : Int32)) = (2 : Int32) from by decide]
    refine w_istoreN (Ls' := #[.val (.ref ar), .val (.int x1), .val (.int (2 : Int32)), .val (.int (2 : Int32)), .val (.int (1 : Int32))]) X hx (hb hby d1_35) (pc' := 36) rfl rfl ?_
    refine w_goto X hx (hb hby d1_36) (pc' := 44) (by decide) (by decide) ?_
    refine w_goto X hx (hb hby d1_44) (pc' := 9) (by decide) (by decide) ?_
    refine w_iloadN X hx (hb hby d1_9) (pc' := 10) rfl rfl ?_
    refine w_iloadN X hx (hb hby d1_10) (pc' := 11) rfl rfl ?_
    have hf11 : ¬ ((2 : Int32) < (2 : Int32)) := (by decide)
    refine w_icmp_gt X hx (hb hby d1_11) (pf := 14) (pt := 47) rfl (by decide) (by decide) (fun hc => absurd hc hf11) (fun hc11 => ?_)
    refine w_iloadN X hx (hb hby d1_14) (pc' := 15) rfl rfl ?_
    refine w_iloadN X hx (hb hby d1_15) (pc' := 16) rfl rfl ?_
    refine w_iadd X hx (hb hby d1_16) (pc' := 17) rfl ?_
    rw [show ((2 : Int32) + (2 : Int32)) = (4 : Int32) from by decide]
    refine w_iconst (v := 1) X hx (hb hby d1_17) (pc' := 18) rfl rfl ?_
    refine w_iushr X hx (hb hby d1_18) (pc' := 19) rfl ?_
    rw [show (jushr (4 : Int32) (1 : Int32)) = (2 : Int32) from by decide]
    refine w_istore (Ls' := #[.val (.ref ar), .val (.int x1), .val (.int (2 : Int32)), .val (.int (2 : Int32)), .val (.int (2 : Int32))]) X hx (hb hby d1_19) (pc' := 21) rfl rfl ?_
    refine w_aloadN X hx (hb hby d1_21) (pc' := 22) rfl rfl rfl ?_
    refine w_iconst (v := 2) X hx (hb hby d1_22) (pc' := 23) rfl rfl ?_
    refine w_iload X hx (hb hby d1_23) (pc' := 25) rfl rfl ?_
    refine w_imul X hx (hb hby d1_25) (pc' := 26) rfl ?_
    rw [show ((2 : Int32) * (2 : Int32)) = (4 : Int32) from by decide]
    refine w_iaload X hx hZ e0 V_ar (v := y4) (by decide) rfl (hb hby d1_26) (pc' := 27) rfl ?_
    refine w_iloadN X hx (hb hby d1_27) (pc' := 28) rfl rfl ?_
    refine w_icmp_gt X hx (hb hby d1_28) (pf := 31) (pt := 39) rfl (by decide) (by decide) (fun hc28 => ?_) (fun hc28 => ?_)
    · rw [if_pos hc28]
      refine w_iload X hx (hb hby d1_39) (pc' := 41) rfl rfl ?_
      refine w_iconst (v := 1) X hx (hb hby d1_41) (pc' := 42) rfl rfl ?_
      refine w_isub X hx (hb hby d1_42) (pc' := 43) rfl ?_
      rw [show ((2 : Int32) - (1 : Int32)) = (1 : Int32) from by decide]
      refine w_istoreN (Ls' := #[.val (.ref ar), .val (.int x1), .val (.int (2 : Int32)), .val (.int (1 : Int32)), .val (.int (2 : Int32))]) X hx (hb hby d1_43) (pc' := 44) rfl rfl ?_
      refine w_goto X hx (hb hby d1_44) (pc' := 9) (by decide) (by decide) ?_
      refine w_iloadN X hx (hb hby d1_9) (pc' := 10) rfl rfl ?_
      refine w_iloadN X hx (hb hby d1_10) (pc' := 11) rfl rfl ?_
      have hf11 : (1 : Int32) < (2 : Int32) := (by decide)
      refine w_icmp_gt X hx (hb hby d1_11) (pf := 14) (pt := 47) rfl (by decide) (by decide) (fun hc11 => ?_) (fun hc => absurd hf11 hc)
      refine w_iloadN X hx (hb hby d1_47) (pc' := 48) rfl rfl ?_
      have hf48 : ¬ ((1 : Int32) < (0 : Int32)) := (by decide)
      refine w_if_lt X hx (hb hby d1_48) (pf := 51) (pt := 66) rfl (by decide) (by decide) (fun hc => absurd hc hf48) (fun hc48 => ?_)
      refine w_iloadN X hx (hb hby d1_51) (pc' := 52) rfl rfl ?_
      refine w_aloadN X hx (hb hby d1_52) (pc' := 53) rfl rfl rfl ?_
      refine w_iconst (v := 2) X hx (hb hby d1_53) (pc' := 54) rfl rfl ?_
      refine w_iloadN X hx (hb hby d1_54) (pc' := 55) rfl rfl ?_
      refine w_imul X hx (hb hby d1_55) (pc' := 56) rfl ?_
      rw [show ((2 : Int32) * (1 : Int32)) = (2 : Int32) from by decide]
      refine w_iconst (v := 1) X hx (hb hby d1_56) (pc' := 57) rfl rfl ?_
      refine w_iadd X hx (hb hby d1_57) (pc' := 58) rfl ?_
      rw [show ((2 : Int32) + (1 : Int32)) = (3 : Int32) from by decide]
      refine w_iaload X hx hZ e0 V_ar (v := y3) (by decide) rfl (hb hby d1_58) (pc' := 59) rfl ?_
      refine w_icmp_gt X hx (hb hby d1_59) (pf := 62) (pt := 66) rfl (by decide) (by decide) (fun hc59 => ?_) (fun hc59 => ?_)
      · rw [if_pos hc59]
        refine w_iconst (v := 0) X hx (hb hby d1_66) (pc' := 67) rfl rfl ?_
        exact w_retZ X hx hret hlk (hb hby d1_67) (by decide) (by decide) ⟨rfl, N0, e0⟩
      · rw [if_neg hc59]
        refine w_iconst (v := 1) X hx (hb hby d1_62) (pc' := 63) rfl rfl ?_
        refine w_goto X hx (hb hby d1_63) (pc' := 67) (by decide) (by decide) ?_
        exact w_retZ X hx hret hlk (hb hby d1_67) (by decide) (by decide) ⟨rfl, N0, e0⟩
    · rw [if_neg hc28]
      refine w_iload X hx (hb hby d1_31) (pc' := 33) rfl rfl ?_
      refine w_iconst (v := 1) X hx (hb hby d1_33) (pc' := 34) rfl rfl ?_
      refine w_iadd X hx (hb hby d1_34) (pc' := 35) rfl ?_
      rw [show ((2 : Int32) + (1 : Int32)) = (3 : Int32) from by decide]
      refine w_istoreN (Ls' := #[.val (.ref ar), .val (.int x1), .val (.int (3 : Int32)), .val (.int (2 : Int32)), .val (.int (2 : Int32))]) X hx (hb hby d1_35) (pc' := 36) rfl rfl ?_
      refine w_goto X hx (hb hby d1_36) (pc' := 44) (by decide) (by decide) ?_
      refine w_goto X hx (hb hby d1_44) (pc' := 9) (by decide) (by decide) ?_
      refine w_iloadN X hx (hb hby d1_9) (pc' := 10) rfl rfl ?_
      refine w_iloadN X hx (hb hby d1_10) (pc' := 11) rfl rfl ?_
      have hf11 : (2 : Int32) < (3 : Int32) := (by decide)
      refine w_icmp_gt X hx (hb hby d1_11) (pf := 14) (pt := 47) rfl (by decide) (by decide) (fun hc11 => ?_) (fun hc => absurd hf11 hc)
      refine w_iloadN X hx (hb hby d1_47) (pc' := 48) rfl rfl ?_
      have hf48 : ¬ ((2 : Int32) < (0 : Int32)) := (by decide)
      refine w_if_lt X hx (hb hby d1_48) (pf := 51) (pt := 66) rfl (by decide) (by decide) (fun hc => absurd hc hf48) (fun hc48 => ?_)
      refine w_iloadN X hx (hb hby d1_51) (pc' := 52) rfl rfl ?_
      refine w_aloadN X hx (hb hby d1_52) (pc' := 53) rfl rfl rfl ?_
      refine w_iconst (v := 2) X hx (hb hby d1_53) (pc' := 54) rfl rfl ?_
      refine w_iloadN X hx (hb hby d1_54) (pc' := 55) rfl rfl ?_
      refine w_imul X hx (hb hby d1_55) (pc' := 56) rfl ?_
      rw [show ((2 : Int32) * (2 : Int32)) = (4 : Int32) from by decide]
      refine w_iconst (v := 1) X hx (hb hby d1_56) (pc' := 57) rfl rfl ?_
      refine w_iadd X hx (hb hby d1_57) (pc' := 58) rfl ?_
      rw [show ((4 : Int32) + (1 : Int32)) = (5 : Int32) from by decide]
      refine w_iaload X hx hZ e0 V_ar (v := y5) (by decide) rfl (hb hby d1_58) (pc' := 59) rfl ?_
      refine w_icmp_gt X hx (hb hby d1_59) (pf := 62) (pt := 66) rfl (by decide) (by decide) (fun hc59 => ?_) (fun hc59 => ?_)
      · rw [if_pos hc59]
        refine w_iconst (v := 0) X hx (hb hby d1_66) (pc' := 67) rfl rfl ?_
        exact w_retZ X hx hret hlk (hb hby d1_67) (by decide) (by decide) ⟨rfl, N0, e0⟩
      · rw [if_neg hc59]
        refine w_iconst (v := 1) X hx (hb hby d1_62) (pc' := 63) rfl rfl ?_
        refine w_goto X hx (hb hby d1_63) (pc' := 67) (by decide) (by decide) ?_
        exact w_retZ X hx hret hlk (hb hby d1_67) (by decide) (by decide) ⟨rfl, N0, e0⟩
theorem own_m (x m : Int32) {k : Nat} (hk : k < 32) (hm : m.toBitVec.toNat = 2 ^ k - 1) : 0 ≤ (x &&& m).toInt ∧ (x &&& m).toInt < 2 ^ k := by
  rw [Jvm.Kit.i32_mask x m hk hm]
  exact ⟨Int.emod_nonneg _ (by have : (0 : Int) < 2 ^ k := Int.pow_pos (by decide); omega), Int.emod_lt_of_pos _ (Int.pow_pos (by decide))⟩
theorem own_one : (1 : Int32).toInt = 1 := by decide
theorem own_zero : (0 : Int32).toInt = 0 := by decide
theorem own_toInt {x y : Int32} (h : x.toInt = y.toInt) : x = y := Int32.toInt_inj.mp h
theorem own_and1 (x : Int32) : x &&& 1 = 0 ∨ x &&& 1 = 1 := and_one x
theorem own_and3 (x : Int32) : x &&& 3 = 0 ∨ x &&& 3 = 1 ∨ x &&& 3 = 2 ∨ x &&& 3 = 3 := by
  obtain ⟨h1, h2⟩ := own_m x 3 (k := 2) (by decide) (by decide)
  have e1 : (1 : Int32).toInt = 1 := by decide
  have e2 : (2 : Int32).toInt = 2 := by decide
  have e3 : (3 : Int32).toInt = 3 := by decide
  have e0 : (0 : Int32).toInt = 0 := by decide
  have : (x &&& 3).toInt = 0 ∨ (x &&& 3).toInt = 1 ∨ (x &&& 3).toInt = 2 ∨ (x &&& 3).toInt = 3 := by omega
  rcases this with h | h | h | h
  · exact Or.inl (own_toInt (h.trans e0.symm))
  · exact Or.inr (Or.inl (own_toInt (h.trans e1.symm)))
  · exact Or.inr (Or.inr (Or.inl (own_toInt (h.trans e2.symm))))
  · exact Or.inr (Or.inr (Or.inr (own_toInt (h.trans e3.symm))))
theorem own_b01 {c : Prop} [Decidable c] {v : Int32} (h : v = if c then 0 else 1) : v = 0 ∨ v = 1 := by subst h; split <;> simp
theorem own_b10 {c : Prop} [Decidable c] {v : Int32} (h : v = if c then 1 else 0) : v = 0 ∨ v = 1 := by subst h; split <;> simp
theorem own_q {x : Int64} {q : Int32} (h : q = (x &&& 131071).toInt32) : 0 ≤ q.toInt ∧ q.toInt ≤ 131071 := by
  have e1 : (x &&& 131071).toInt = x.toInt % 2 ^ 17 := Jvm.Kit.i64_mask x 131071 (k := 17) (by decide) (by decide)
  rw [h, Jvm.Kit.i32_of_i64 (by omega) (by omega)]
  omega
theorem own_two : (2 : Int32).toInt = 2 := by decide
theorem own_add {x y : Int32} (h1 : 0 ≤ x.toInt) (h2 : 0 ≤ y.toInt) (h3 : x.toInt + y.toInt < 2147483648) : (x + y).toInt = x.toInt + y.toInt := Jvm.Kit.i32_add (by omega) (by omega)
theorem own_r {e g r : Int32} (h : r = e + 2 + g) (e1 : 0 ≤ e.toInt) (e2 : e.toInt ≤ 1000000) (g1 : 0 ≤ g.toInt) (g2 : g.toInt ≤ 131071) : r.toInt = e.toInt + 2 + g.toInt := by
  have h1 : (e + 2).toInt = e.toInt + 2 := by rw [own_add e1 (by decide) (by rw [own_two]; omega), own_two]
  rw [h, own_add (by omega) g1 (by omega), h1]
theorem own_sub {e : Int32} (h1 : 0 ≤ e.toInt) (h2 : e.toInt ≤ 1000000) : ((1114112 : Int32) - e).toInt = 1114112 - e.toInt := by
  have e0 : (1114112 : Int32).toInt = 1114112 := by decide
  rw [Jvm.Kit.i32_sub (by omega) (by omega), e0]
theorem own_ne {x : Int32} (h : 1 ≤ x.toInt) : x ≠ 0 := by
  intro q
  rw [q] at h
  exact absurd h (by decide)
theorem own_d1 {e : Int32} (h1 : 0 ≤ e.toInt) (h2 : e.toInt ≤ 1000000) : ((1114112 : Int32) - e) ≠ 0 := own_ne (by rw [own_sub h1 h2]; omega)
theorem own_d2 {e : Int32} (h1 : 0 ≤ e.toInt) (h2 : e.toInt ≤ 1000000) : (e + 3) ≠ 0 := own_ne (by
  have e3 : (3 : Int32).toInt = 3 := by decide
  rw [own_add h1 (by decide) (by omega), e3]; omega)
theorem own_bs {o e b : Int32} (h : b = (o &&& 2147483647) % (1114112 - e)) (h1 : 0 ≤ e.toInt) (h2 : e.toInt ≤ 1000000) : 0 ≤ b.toInt ∧ b.toInt < 1114112 := by
  have h0 := (own_m o 2147483647 (k := 31) (by decide) (by decide)).1
  have e1 := own_sub h1 h2
  rw [h, Jvm.Kit.i32_rem_nonneg h0, e1]
  have h3 := Int.emod_nonneg (o &&& 2147483647).toInt (show (1114112 - e.toInt) ≠ 0 by omega)
  have h4 := Int.emod_lt_of_pos (o &&& 2147483647).toInt (show 0 < (1114112 - e.toInt) by omega)
  omega
theorem own_e0 {g : Int64} {qa : Int32} (h0 : qa = (g &&& 131071).toInt32) : 0 ≤ qa.toInt ∧ qa.toInt ≤ 1000000 := by have := own_q h0; omega
theorem own_e1 {g ga gb : Int64} {qa qb qc r1 en1 : Int32} (h0 : qa = (g &&& 131071).toInt32) (h1 : qb = (ga &&& 131071).toInt32) (h2 : qc = (gb &&& 131071).toInt32) (hr1 : r1 = qa + 2 + qb) (hen1 : en1 = r1 + qc) :
    qa.toInt + 2 ≤ r1.toInt ∧ r1.toInt ≤ en1.toInt ∧ 0 ≤ en1.toInt ∧ en1.toInt ≤ 400000 := by
  have b0 := own_q h0
  have b1 := own_q h1
  have b2 := own_q h2
  have c1 := own_r hr1 (by omega) (by omega) (by omega) (by omega)
  have c2 : en1.toInt = r1.toInt + qc.toInt := by rw [hen1, own_add (by omega) (by omega) (by omega)]
  omega
theorem own_e2 {hh ha : Int64} {qd qe en1 r2 en2 : Int32} (h3 : qd = (hh &&& 131071).toInt32) (h4 : qe = (ha &&& 131071).toInt32) (he : 0 ≤ en1.toInt ∧ en1.toInt ≤ 400000) (hr2 : r2 = en1 + 2 + qd) (hen2 : en2 = r2 + qe) :
    en1.toInt + 2 ≤ r2.toInt ∧ r2.toInt ≤ en2.toInt ∧ 0 ≤ en2.toInt ∧ en2.toInt ≤ 1000000 := by
  have b3 := own_q h3
  have b4 := own_q h4
  have c1 := own_r hr2 (by omega) (by omega) (by omega) (by omega)
  have c2 : en2.toInt = r2.toInt + qe.toInt := by rw [hen2, own_add (by omega) (by omega) (by omega)]
  omega
theorem own_lt {b x y u v : Int32} (hb : 0 ≤ b.toInt ∧ b.toInt < 1114112) (hx : 0 ≤ x.toInt) (hxy : x.toInt < y.toInt) (hy : y.toInt ≤ 1000000) (hu : u = b + x) (hv : v = b + y) : u.toInt < v.toInt := by
  rw [hu, hv, own_add (by omega) (by omega) (by omega), own_add (by omega) (by omega) (by omega)]
  omega
theorem own_le {b x y u v : Int32} (hb : 0 ≤ b.toInt ∧ b.toInt < 1114112) (hx : 0 ≤ x.toInt) (hxy : x.toInt ≤ y.toInt) (hy : y.toInt ≤ 1000000) (hu : u = b + x) (hv : v = b + y) : u.toInt ≤ v.toInt := by
  rw [hu, hv, own_add (by omega) (by omega) (by omega), own_add (by omega) (by omega) (by omega)]
  omega
theorem own_le0 {b x u : Int32} (hb : 0 ≤ b.toInt ∧ b.toInt < 1114112) (hx : 0 ≤ x.toInt) (hy : x.toInt ≤ 1000000) (hu : u = b + x) : b.toInt ≤ u.toInt := by
  rw [hu, own_add (by omega) (by omega) (by omega)]
  omega
theorem own_l1 {a0 b0 cc v w : Int32} (hv : v = (if cc < a0 then 0 else (if b0 < cc then 0 else 1))) (hw : w = (if v = 0 then 0 else 1)) : K1_n2 a0 b0 cc = w := by
  rw [hw, hv, K1_n2]
  repeat' split
  all_goals first | rfl | (simp_all; done)
theorem own_l2 {a0 b0 a1 b1 cc v u w : Int32} (o1 : b0.toInt < a1.toInt) (o0 : a0.toInt ≤ b0.toInt) (hv : v = (if cc < a0 then 0 else (if b0 < cc then 0 else 1))) (hu : u = (if cc < a1 then 0 else (if b1 < cc then 0 else 1))) (hw : w = (if v = 0 then (if u = 0 then 0 else 1) else 1)) : K1_n4 a0 b0 a1 b1 cc = w := by
  rw [hw, hv, hu, K1_n4]
  simp only [Int32.lt_iff_toInt_lt]
  generalize a0.toInt = A0, b0.toInt = B0, a1.toInt = A1, b1.toInt = B1, cc.toInt = C at *
  clear hv hu hw
  by_cases c1 : C < A0 <;> by_cases c2 : B0 < C <;> by_cases c3 : C < A1 <;> by_cases c4 : B1 < C <;> simp only [c1, c2, c3, c4, if_true, if_false, ↓reduceIte] <;> first | rfl | omega
theorem own_l3 {a0 b0 a1 b1 a2 b2 cc v u t w : Int32} (o0 : a0.toInt ≤ b0.toInt) (o1 : b0.toInt < a1.toInt) (o2 : a1.toInt ≤ b1.toInt) (o3 : b1.toInt < a2.toInt) (hv : v = (if cc < a0 then 0 else (if b0 < cc then 0 else 1))) (hu : u = (if cc < a1 then 0 else (if b1 < cc then 0 else 1))) (ht : t = (if cc < a2 then 0 else (if b2 < cc then 0 else 1))) (hw : w = (if v = 0 then (if u = 0 then (if t = 0 then 0 else 1) else 1) else 1)) : K1_n6 a0 b0 a1 b1 a2 b2 cc = w := by
  rw [hw, hv, hu, ht, K1_n6]
  simp only [Int32.lt_iff_toInt_lt]
  generalize a0.toInt = A0, b0.toInt = B0, a1.toInt = A1, b1.toInt = B1, a2.toInt = A2, b2.toInt = B2, cc.toInt = C at *
  clear hv hu ht hw
  by_cases c1 : C < A0 <;> by_cases c2 : B0 < C <;> by_cases c3 : C < A1 <;> by_cases c4 : B1 < C <;> by_cases c5 : C < A2 <;> by_cases c6 : B2 < C <;> simp only [c1, c2, c3, c4, c5, c6, if_true, if_false, ↓reduceIte] <;> first | rfl | omega
theorem own_k2 {g ga gb hh ha : Int64} {qa qb qc qd qe r1 en1 r2 en2 : Int32} (hqa : qa = (g &&& 131071).toInt32) (hqb : qb = (ga &&& 131071).toInt32) (hqc : qc = (gb &&& 131071).toInt32) (hqd : qd = (hh &&& 131071).toInt32) (hqe : qe = (ha &&& 131071).toInt32) (hr1 : r1 = qa + 2 + qb) (hen1 : en1 = r1 + qc) (hr2 : r2 = en1 + 2 + qd) (hen2 : en2 = r2 + qe) {o bs pb0 pa1 pb1 cc v u w : Int32} (hbs : bs = (o &&& 2147483647) % (1114112 - en1)) (hpb0 : pb0 = bs + qa) (hpa1 : pa1 = bs + r1) (hpb1 : pb1 = bs + en1) (hv : v = (if cc < bs then 0 else (if pb0 < cc then 0 else 1))) (hu : u = (if cc < pa1 then 0 else (if pb1 < cc then 0 else 1))) (hw : w = (if v = 0 then (if u = 0 then 0 else 1) else 1)) : K1_n4 bs pb0 pa1 pb1 cc = w := by
  have k0 := own_e0 hqa
  have k1 := own_e1 hqa hqb hqc hr1 hen1
  have kb := own_bs hbs (by omega) (by omega)
  exact own_l2 (own_lt kb (by omega) (by omega) (by omega) hpb0 hpa1) (own_le0 kb (by omega) (by omega) hpb0) hv hu hw
theorem own_k3 {g ga gb hh ha : Int64} {qa qb qc qd qe r1 en1 r2 en2 : Int32} (hqa : qa = (g &&& 131071).toInt32) (hqb : qb = (ga &&& 131071).toInt32) (hqc : qc = (gb &&& 131071).toInt32) (hqd : qd = (hh &&& 131071).toInt32) (hqe : qe = (ha &&& 131071).toInt32) (hr1 : r1 = qa + 2 + qb) (hen1 : en1 = r1 + qc) (hr2 : r2 = en1 + 2 + qd) (hen2 : en2 = r2 + qe) {o bs pb0 pa1 pb1 pa2 pb2 cc v u t w : Int32} (hbs : bs = (o &&& 2147483647) % (1114112 - en2)) (hpb0 : pb0 = bs + qa) (hpa1 : pa1 = bs + r1) (hpb1 : pb1 = bs + en1) (hpa2 : pa2 = bs + r2) (hpb2 : pb2 = bs + en2) (hv : v = (if cc < bs then 0 else (if pb0 < cc then 0 else 1))) (hu : u = (if cc < pa1 then 0 else (if pb1 < cc then 0 else 1))) (ht : t = (if cc < pa2 then 0 else (if pb2 < cc then 0 else 1))) (hw : w = (if v = 0 then (if u = 0 then (if t = 0 then 0 else 1) else 1) else 1)) : K1_n6 bs pb0 pa1 pb1 pa2 pb2 cc = w := by
  have k0 := own_e0 hqa
  have k1 := own_e1 hqa hqb hqc hr1 hen1
  have k2 := own_e2 hqd hqe ⟨k1.2.2.1, k1.2.2.2⟩ hr2 hen2
  have kb := own_bs hbs (by omega) (by omega)
  exact own_l3 (own_le0 kb (by omega) (by omega) hpb0) (own_lt kb (by omega) (by omega) (by omega) hpb0 hpa1) (own_le kb (by omega) (by omega) (by omega) hpa1 hpb1) (own_lt kb (by omega) (by omega) (by omega) hpb1 hpa2) hv hu ht hw
theorem own_dd2 {g ga gb : Int64} {qa qb qc r1 en1 : Int32} (hqa : qa = (g &&& 131071).toInt32) (hqb : qb = (ga &&& 131071).toInt32) (hqc : qc = (gb &&& 131071).toInt32) (hr1 : r1 = qa + 2 + qb) (hen1 : en1 = r1 + qc) : 0 ≤ en1.toInt ∧ en1.toInt ≤ 1000000 := by
  have k1 := own_e1 hqa hqb hqc hr1 hen1
  omega
theorem own_dd3 {g ga gb hh ha : Int64} {qa qb qc qd qe r1 en1 r2 en2 : Int32} (hqa : qa = (g &&& 131071).toInt32) (hqb : qb = (ga &&& 131071).toInt32) (hqc : qc = (gb &&& 131071).toInt32) (hqd : qd = (hh &&& 131071).toInt32) (hqe : qe = (ha &&& 131071).toInt32) (hr1 : r1 = qa + 2 + qb) (hen1 : en1 = r1 + qc) (hr2 : r2 = en1 + 2 + qd) (hen2 : en2 = r2 + qe) : 0 ≤ en2.toInt ∧ en2.toInt ≤ 1000000 := by
  have k1 := own_e1 hqa hqb hqc hr1 hen1
  have k2 := own_e2 hqd hqe ⟨k1.2.2.1, k1.2.2.2⟩ hr2 hen2
  omega
theorem ef_0 (m : MethodId) (x0 : Int32) (x1 : Int32) (x2 : Int64) (x3 : Int64) (x4 : Int32) : entryFrame m #[(.int x0), (.int x1), (.long x2), (.long x3), (.int x4)] maxLocals = mkF m 0 #[.val (.int x0), .val (.int x1), .val (.long x2), .second, .val (.long x3), .second, .val (.int x4), .unset, .unset, .unset, .unset, .unset, .unset, .unset, .unset, .unset, .unset, .unset, .unset, .unset, .unset, .unset, .unset, .unset, .unset, .unset, .unset, .unset, .unset, .unset, .unset, .unset, .unset] [] := by first | (simp [entryFrame, mkF, argsToLocals, Value.category, maxLocals]; done) | rfl
set_option maxRecDepth 65536 in
set_option maxHeartbeats 40000000 in
theorem rm0 (l : Launch) (Z : State) (a0 : Array Value) (hw : ∀ d ∈ tables_1, d.before a0 Z = true) (x0 : Int32) (x1 : Int32) (x2 : Int64) (x3 : Int64) (x4 : Int32) (h0 : Heap) (n0 : Nat) (Z0 : n0 ≤ h0.size) :
    Con l Z x code maxLocals ret room_1 #[(.int x0), (.int x1), (.long x2), (.long x3), (.int x4)] h0 (QL (some (.int 1)) n0) := by
  refine Con.of (plainFor_of_name (by first | (simp [plainName, overriddenIn]; done) | decide +kernel)) ?_
  intro p e s m below meth c T X hx hZ hby hml hown hnm hret hlk e0
  rw [ef_0]
  have N0 := Fr.nil n0
  show Go p e below s room_1.cells room_1.slots (QL (some (.int 1)) n0) T (mkF m 0 #[.val (.int x0), .val (.int x1), .val (.long x2), .second, .val (.long x3), .second, .val (.int x4), .unset, .unset, .unset, .unset, .unset, .unset, .unset, .unset, .unset, .unset, .unset, .unset, .unset, .unset, .unset, .unset, .unset, .unset, .unset, .unset, .unset, .unset, .unset, .unset, .unset, .unset] [])
  refine w_iloadN X hx (hb hby at_0) (pc' := 1) rfl rfl ?_
  refine w_iconst (v := 3) X hx (hb hby at_1) (pc' := 2) rfl rfl ?_
  refine w_iand X hx (hb hby at_2) (pc' := 3) rfl ?_
  refine w_istore (Ls' := #[.val (.int x0), .val (.int x1), .val (.long x2), .second, .val (.long x3), .second, .val (.int x4), .val (.int (x0 &&& (3 : Int32))), .unset, .unset, .unset, .unset, .unset, .unset, .unset, .unset, .unset, .unset, .unset, .unset, .unset, .unset, .unset, .unset, .unset, .unset, .unset, .unset, .unset, .unset, .unset, .unset, .unset]) X hx (hb hby at_3) (pc' := 5) rfl rfl ?_
  obtain ⟨kk, hkk⟩ : ∃ z : Int32, z = (x0 &&& (3 : Int32)) := ⟨_, rfl⟩
  rw [← hkk]
  refine w_iloadN X hx (hb hby at_5) (pc' := 6) rfl rfl ?_
  refine w_iconst (v := 4) X hx (hb hby at_6) (pc' := 7) rfl rfl ?_
  refine w_iand X hx (hb hby at_7) (pc' := 8) rfl ?_
  have J16_2 : ∀ (v1 : Int32), v1 = (if (x0 &&& (4 : Int32)) = (0 : Int32) then (0 : Int32) else (1 : Int32)) → Go p e below s room_1.cells room_1.slots (QL (some (.int 1)) n0) T (mkF m 16 #[.val (.int x0), .val (.int x1), .val (.long x2), .second, .val (.long x3), .second, .val (.int x4), .val (.int kk), .unset, .unset, .unset, .unset, .unset, .unset, .unset, .unset, .unset, .unset, .unset, .unset, .unset, .unset, .unset, .unset, .unset, .unset, .unset, .unset, .unset, .unset, .unset, .unset, .unset] [(.int v1)]) := by
    intro v1 hv1
    refine w_istore (Ls' := #[.val (.int x0), .val (.int x1), .val (.long x2), .second, .val (.long x3), .second, .val (.int x4), .val (.int kk), .val (.int v1), .unset, .unset, .unset, .unset, .unset, .unset, .unset, .unset, .unset, .unset, .unset, .unset, .unset, .unset, .unset, .unset, .unset, .unset, .unset, .unset, .unset, .unset, .unset, .unset]) X hx (hb hby at_16) (pc' := 18) rfl rfl ?_
    refine w_lloadN X hx (hb hby at_18) (pc' := 19) rfl rfl ?_
    refine w_ldc2 X hx hZ hown (hw _ (List.mem_of_getElem? (i := 0) rfl)) (hb hby at_19) (pc' := 22) rfl ?_
    refine w_land X hx (hb hby at_22) (pc' := 23) rfl ?_
    refine w_l2i X hx (hb hby at_23) (pc' := 24) rfl ?_
    refine w_istore (Ls' := #[.val (.int x0), .val (.int x1), .val (.long x2), .second, .val (.long x3), .second, .val (.int x4), .val (.int kk), .val (.int v1), .val (.int (x2 &&& (131071 : Int64)).toInt32), .unset, .unset, .unset, .unset, .unset, .unset, .unset, .unset, .unset, .unset, .unset, .unset, .unset, .unset, .unset, .unset, .unset, .unset, .unset, .unset, .unset, .unset, .unset]) X hx (hb hby at_24) (pc' := 26) rfl rfl ?_
    obtain ⟨qa, hqa⟩ : ∃ z : Int32, z = (x2 &&& (131071 : Int64)).toInt32 := ⟨_, rfl⟩
    rw [← hqa]
    refine w_lloadN X hx (hb hby at_26) (pc' := 27) rfl rfl ?_
    refine w_bipush (v := 17) X hx (hb hby at_27) (pc' := 29) rfl rfl ?_
    refine w_lushr X hx (hb hby at_29) (pc' := 30) rfl ?_
    refine w_ldc2 X hx hZ hown (hw _ (List.mem_of_getElem? (i := 0) rfl)) (hb hby at_30) (pc' := 33) rfl ?_
    refine w_land X hx (hb hby at_33) (pc' := 34) rfl ?_
    refine w_l2i X hx (hb hby at_34) (pc' := 35) rfl ?_
    refine w_istore (Ls' := #[.val (.int x0), .val (.int x1), .val (.long x2), .second, .val (.long x3), .second, .val (.int x4), .val (.int kk), .val (.int v1), .val (.int qa), .val (.int ((jlushr x2 (17 : Int32)) &&& (131071 : Int64)).toInt32), .unset, .unset, .unset, .unset, .unset, .unset, .unset, .unset, .unset, .unset, .unset, .unset, .unset, .unset, .unset, .unset, .unset, .unset, .unset, .unset, .unset, .unset]) X hx (hb hby at_35) (pc' := 37) rfl rfl ?_
    obtain ⟨qb, hqb⟩ : ∃ z : Int32, z = ((jlushr x2 (17 : Int32)) &&& (131071 : Int64)).toInt32 := ⟨_, rfl⟩
    rw [← hqb]
    refine w_lloadN X hx (hb hby at_37) (pc' := 38) rfl rfl ?_
    refine w_bipush (v := 34) X hx (hb hby at_38) (pc' := 40) rfl rfl ?_
    refine w_lushr X hx (hb hby at_40) (pc' := 41) rfl ?_
    refine w_ldc2 X hx hZ hown (hw _ (List.mem_of_getElem? (i := 0) rfl)) (hb hby at_41) (pc' := 44) rfl ?_
    refine w_land X hx (hb hby at_44) (pc' := 45) rfl ?_
    refine w_l2i X hx (hb hby at_45) (pc' := 46) rfl ?_
    refine w_istore (Ls' := #[.val (.int x0), .val (.int x1), .val (.long x2), .second, .val (.long x3), .second, .val (.int x4), .val (.int kk), .val (.int v1), .val (.int qa), .val (.int qb), .val (.int ((jlushr x2 (34 : Int32)) &&& (131071 : Int64)).toInt32), .unset, .unset, .unset, .unset, .unset, .unset, .unset, .unset, .unset, .unset, .unset, .unset, .unset, .unset, .unset, .unset, .unset, .unset, .unset, .unset, .unset]) X hx (hb hby at_46) (pc' := 48) rfl rfl ?_
    obtain ⟨qc, hqc⟩ : ∃ z : Int32, z = ((jlushr x2 (34 : Int32)) &&& (131071 : Int64)).toInt32 := ⟨_, rfl⟩
    rw [← hqc]
    refine w_lload X hx (hb hby at_48) (pc' := 50) rfl rfl ?_
    refine w_ldc2 X hx hZ hown (hw _ (List.mem_of_getElem? (i := 0) rfl)) (hb hby at_50) (pc' := 53) rfl ?_
    refine w_land X hx (hb hby at_53) (pc' := 54) rfl ?_
    refine w_l2i X hx (hb hby at_54) (pc' := 55) rfl ?_
    refine w_istore (Ls' := #[.val (.int x0), .val (.int x1), .val (.long x2), .second, .val (.long x3), .second, .val (.int x4), .val (.int kk), .val (.int v1), .val (.int qa), .val (.int qb), .val (.int qc), .val (.int (x3 &&& (131071 : Int64)).toInt32), .unset, .unset, .unset, .unset, .unset, .unset, .unset, .unset, .unset, .unset, .unset, .unset, .unset, .unset, .unset, .unset, .unset, .unset, .unset, .unset]) X hx (hb hby at_55) (pc' := 57) rfl rfl ?_
    obtain ⟨qd, hqd⟩ : ∃ z : Int32, z = (x3 &&& (131071 : Int64)).toInt32 := ⟨_, rfl⟩
    rw [← hqd]
    refine w_lload X hx (hb hby at_57) (pc' := 59) rfl rfl ?_
    refine w_bipush (v := 17) X hx (hb hby at_59) (pc' := 61) rfl rfl ?_
    refine w_lushr X hx (hb hby at_61) (pc' := 62) rfl ?_
    refine w_ldc2 X hx hZ hown (hw _ (List.mem_of_getElem? (i := 0) rfl)) (hb hby at_62) (pc' := 65) rfl ?_
    refine w_land X hx (hb hby at_65) (pc' := 66) rfl ?_
    refine w_l2i X hx (hb hby at_66) (pc' := 67) rfl ?_
    refine w_istore (Ls' := #[.val (.int x0), .val (.int x1), .val (.long x2), .second, .val (.long x3), .second, .val (.int x4), .val (.int kk), .val (.int v1), .val (.int qa), .val (.int qb), .val (.int qc), .val (.int qd), .val (.int ((jlushr x3 (17 : Int32)) &&& (131071 : Int64)).toInt32), .unset, .unset, .unset, .unset, .unset, .unset, .unset, .unset, .unset, .unset, .unset, .unset, .unset, .unset, .unset, .unset, .unset, .unset, .unset]) X hx (hb hby at_67) (pc' := 69) rfl rfl ?_
    obtain ⟨qe, hqe⟩ : ∃ z : Int32, z = ((jlushr x3 (17 : Int32)) &&& (131071 : Int64)).toInt32 := ⟨_, rfl⟩
    rw [← hqe]
    refine w_iload X hx (hb hby at_69) (pc' := 71) rfl rfl ?_
    refine w_istore (Ls' := #[.val (.int x0), .val (.int x1), .val (.long x2), .second, .val (.long x3), .second, .val (.int x4), .val (.int kk), .val (.int v1), .val (.int qa), .val (.int qb), .val (.int qc), .val (.int qd), .val (.int qe), .val (.int qa), .unset, .unset, .unset, .unset, .unset, .unset, .unset, .unset, .unset, .unset, .unset, .unset, .unset, .unset, .unset, .unset, .unset, .unset]) X hx (hb hby at_71) (pc' := 73) rfl rfl ?_
    refine w_iload X hx (hb hby at_73) (pc' := 75) rfl rfl ?_
    refine w_iconst (v := 2) X hx (hb hby at_75) (pc' := 76) rfl rfl ?_
    refine w_iadd X hx (hb hby at_76) (pc' := 77) rfl ?_
    refine w_iload X hx (hb hby at_77) (pc' := 79) rfl rfl ?_
    refine w_iadd X hx (hb hby at_79) (pc' := 80) rfl ?_
    refine w_istore (Ls' := #[.val (.int x0), .val (.int x1), .val (.long x2), .second, .val (.long x3), .second, .val (.int x4), .val (.int kk), .val (.int v1), .val (.int qa), .val (.int qb), .val (.int qc), .val (.int qd), .val (.int qe), .val (.int qa), .val (.int ((qa + (2 : Int32)) + qb)), .unset, .unset, .unset, .unset, .unset, .unset, .unset, .unset, .unset, .unset, .unset, .unset, .unset, .unset, .unset, .unset, .unset]) X hx (hb hby at_80) (pc' := 82) rfl rfl ?_
    obtain ⟨r1, hr1⟩ : ∃ z : Int32, z = ((qa + (2 : Int32)) + qb) := ⟨_, rfl⟩
    rw [← hr1]
    refine w_iload X hx (hb hby at_82) (pc' := 84) rfl rfl ?_
    refine w_iload X hx (hb hby at_84) (pc' := 86) rfl rfl ?_
    refine w_iadd X hx (hb hby at_86) (pc' := 87) rfl ?_
    refine w_istore (Ls' := #[.val (.int x0), .val (.int x1), .val (.long x2), .second, .val (.long x3), .second, .val (.int x4), .val (.int kk), .val (.int v1), .val (.int qa), .val (.int qb), .val (.int qc), .val (.int qd), .val (.int qe), .val (.int qa), .val (.int r1), .val (.int (r1 + qc)), .unset, .unset, .unset, .unset, .unset, .unset, .unset, .unset, .unset, .unset, .unset, .unset, .unset, .unset, .unset, .unset]) X hx (hb hby at_87) (pc' := 89) rfl rfl ?_
    obtain ⟨en1, hen1⟩ : ∃ z : Int32, z = (r1 + qc) := ⟨_, rfl⟩
    rw [← hen1]
    refine w_iload X hx (hb hby at_89) (pc' := 91) rfl rfl ?_
    refine w_iconst (v := 2) X hx (hb hby at_91) (pc' := 92) rfl rfl ?_
    refine w_iadd X hx (hb hby at_92) (pc' := 93) rfl ?_
    refine w_iload X hx (hb hby at_93) (pc' := 95) rfl rfl ?_
    refine w_iadd X hx (hb hby at_95) (pc' := 96) rfl ?_
    refine w_istore (Ls' := #[.val (.int x0), .val (.int x1), .val (.long x2), .second, .val (.long x3), .second, .val (.int x4), .val (.int kk), .val (.int v1), .val (.int qa), .val (.int qb), .val (.int qc), .val (.int qd), .val (.int qe), .val (.int qa), .val (.int r1), .val (.int en1), .val (.int ((en1 + (2 : Int32)) + qd)), .unset, .unset, .unset, .unset, .unset, .unset, .unset, .unset, .unset, .unset, .unset, .unset, .unset, .unset, .unset]) X hx (hb hby at_96) (pc' := 98) rfl rfl ?_
    obtain ⟨r2, hr2⟩ : ∃ z : Int32, z = ((en1 + (2 : Int32)) + qd) := ⟨_, rfl⟩
    rw [← hr2]
    refine w_iload X hx (hb hby at_98) (pc' := 100) rfl rfl ?_
    refine w_iload X hx (hb hby at_100) (pc' := 102) rfl rfl ?_
    refine w_iadd X hx (hb hby at_102) (pc' := 103) rfl ?_
    refine w_istore (Ls' := #[.val (.int x0), .val (.int x1), .val (.long x2), .second, .val (.long x3), .second, .val (.int x4), .val (.int kk), .val (.int v1), .val (.int qa), .val (.int qb), .val (.int qc), .val (.int qd), .val (.int qe), .val (.int qa), .val (.int r1), .val (.int en1), .val (.int r2), .val (.int (r2 + qe)), .unset, .unset, .unset, .unset, .unset, .unset, .unset, .unset, .unset, .unset, .unset, .unset, .unset, .unset]) X hx (hb hby at_103) (pc' := 105) rfl rfl ?_
    obtain ⟨en2, hen2⟩ : ∃ z : Int32, z = (r2 + qe) := ⟨_, rfl⟩
    rw [← hen2]
    rcases (show kk = 0 ∨ kk = 1 ∨ kk = 2 ∨ kk = 3 from hkk ▸ own_and3 _) with rfl | rfl | rfl | rfl
    · refine w_iconst (v := 0) X hx (hb hby at_105) (pc' := 106) rfl rfl ?_
      refine w_istore (Ls' := #[.val (.int x0), .val (.int x1), .val (.long x2), .second, .val (.long x3), .second, .val (.int x4), .val (.int (0 : Int32)), .val (.int v1), .val (.int qa), .val (.int qb), .val (.int qc), .val (.int qd), .val (.int qe), .val (.int qa), .val (.int r1), .val (.int en1), .val (.int r2), .val (.int en2), .val (.int (0 : Int32)), .unset, .unset, .unset, .unset, .unset, .unset, .unset, .unset, .unset, .unset, .unset, .unset, .unset]) X hx (hb hby at_106) (pc' := 108) rfl rfl ?_
      refine w_iload X hx (hb hby at_108) (pc' := 110) rfl rfl ?_
      refine w_iconst (v := 1) X hx (hb hby at_110) (pc' := 111) rfl rfl ?_
      have hf111 : ¬ ((0 : Int32) = (1 : Int32)) := (by decide)
      refine w_icmp_ne X hx (hb hby at_111) (pf := 114) (pt := 121) rfl (by decide) (by decide) (fun hc111 => ?_) (fun hc => absurd hc hf111)
      refine w_iload X hx (hb hby at_121) (pc' := 123) rfl rfl ?_
      refine w_iconst (v := 2) X hx (hb hby at_123) (pc' := 124) rfl rfl ?_
      have hf124 : ¬ ((0 : Int32) = (2 : Int32)) := (by decide)
      refine w_icmp_ne X hx (hb hby at_124) (pf := 127) (pt := 134) rfl (by decide) (by decide) (fun hc124 => ?_) (fun hc => absurd hc hf124)
      refine w_iload X hx (hb hby at_134) (pc' := 136) rfl rfl ?_
      refine w_iconst (v := 3) X hx (hb hby at_136) (pc' := 137) rfl rfl ?_
      have hf137 : ¬ ((0 : Int32) = (3 : Int32)) := (by decide)
      refine w_icmp_ne X hx (hb hby at_137) (pf := 140) (pt := 144) rfl (by decide) (by decide) (fun hc137 => ?_) (fun hc => absurd hc hf137)
      refine w_iload X hx (hb hby at_144) (pc' := 146) rfl rfl ?_
      refine w_ldc X hx hZ hown (hw _ (List.mem_of_getElem? (i := 1) rfl)) (hb hby at_146) (pc' := 148) rfl ?_
      refine w_iand X hx (hb hby at_148) (pc' := 149) rfl ?_
      refine w_ldc X hx hZ hown (hw _ (List.mem_of_getElem? (i := 2) rfl)) (hb hby at_149) (pc' := 151) rfl ?_
      refine w_iload X hx (hb hby at_151) (pc' := 153) rfl rfl ?_
      refine w_isub X hx (hb hby at_153) (pc' := 154) rfl ?_
      rw [show ((1114112 : Int32) - (0 : Int32)) = (1114112 : Int32) from by decide]
      refine w_irem X hx (hb hby at_154) (pc' := 155) rfl (by first | decide | exact own_d1 (own_e0 hqa).1 (own_e0 hqa).2 | exact own_d1 (own_dd2 hqa hqb hqc hr1 hen1).1 (own_dd2 hqa hqb hqc hr1 hen1).2 | exact own_d1 (own_dd3 hqa hqb hqc hqd hqe hr1 hen1 hr2 hen2).1 (own_dd3 hqa hqb hqc hqd hqe hr1 hen1 hr2 hen2).2) ?_
      refine w_istore (Ls' := #[.val (.int x0), .val (.int x1), .val (.long x2), .second, .val (.long x3), .second, .val (.int x4), .val (.int (0 : Int32)), .val (.int v1), .val (.int qa), .val (.int qb), .val (.int qc), .val (.int qd), .val (.int qe), .val (.int qa), .val (.int r1), .val (.int en1), .val (.int r2), .val (.int en2), .val (.int (0 : Int32)), .val (.int ((x4 &&& (2147483647 : Int32)) % (1114112 : Int32))), .unset, .unset, .unset, .unset, .unset, .unset, .unset, .unset, .unset, .unset, .unset, .unset]) X hx (hb hby at_155) (pc' := 157) rfl rfl ?_
      obtain ⟨bs, hbs⟩ : ∃ z : Int32, z = ((x4 &&& (2147483647 : Int32)) % (1114112 : Int32)) := ⟨_, rfl⟩
      rw [← hbs]
      refine w_iload X hx (hb hby at_157) (pc' := 159) rfl rfl ?_
      refine w_istore (Ls' := #[.val (.int x0), .val (.int x1), .val (.long x2), .second, .val (.long x3), .second, .val (.int x4), .val (.int (0 : Int32)), .val (.int v1), .val (.int qa), .val (.int qb), .val (.int qc), .val (.int qd), .val (.int qe), .val (.int qa), .val (.int r1), .val (.int en1), .val (.int r2), .val (.int en2), .val (.int (0 : Int32)), .val (.int bs), .val (.int bs), .unset, .unset, .unset, .unset, .unset, .unset, .unset, .unset, .unset, .unset, .unset]) X hx (hb hby at_159) (pc' := 161) rfl rfl ?_
      refine w_iload X hx (hb hby at_161) (pc' := 163) rfl rfl ?_
      refine w_iload X hx (hb hby at_163) (pc' := 165) rfl rfl ?_
      refine w_iadd X hx (hb hby at_165) (pc' := 166) rfl ?_
      refine w_istore (Ls' := #[.val (.int x0), .val (.int x1), .val (.long x2), .second, .val (.long x3), .second, .val (.int x4), .val (.int (0 : Int32)), .val (.int v1), .val (.int qa), .val (.int qb), .val (.int qc), .val (.int qd), .val (.int qe), .val (.int qa), .val (.int r1), .val (.int en1), .val (.int r2), .val (.int en2), .val (.int (0 : Int32)), .val (.int bs), .val (.int bs), .val (.int (bs + qa)), .unset, .unset, .unset, .unset, .unset, .unset, .unset, .unset, .unset, .unset]) X hx (hb hby at_166) (pc' := 168) rfl rfl ?_
      obtain ⟨pb0, hpb0⟩ : ∃ z : Int32, z = (bs + qa) := ⟨_, rfl⟩
      rw [← hpb0]
      refine w_iload X hx (hb hby at_168) (pc' := 170) rfl rfl ?_
      refine w_iload X hx (hb hby at_170) (pc' := 172) rfl rfl ?_
      refine w_iadd X hx (hb hby at_172) (pc' := 173) rfl ?_
      refine w_istore (Ls' := #[.val (.int x0), .val (.int x1), .val (.long x2), .second, .val (.long x3), .second, .val (.int x4), .val (.int (0 : Int32)), .val (.int v1), .val (.int qa), .val (.int qb), .val (.int qc), .val (.int qd), .val (.int qe), .val (.int qa), .val (.int r1), .val (.int en1), .val (.int r2), .val (.int en2), .val (.int (0 : Int32)), .val (.int bs), .val (.int bs), .val (.int pb0), .val (.int (bs + r1)), .unset, .unset, .unset, .unset, .unset, .unset, .unset, .unset, .unset]) X hx (hb hby at_173) (pc' := 175) rfl rfl ?_
      obtain ⟨pa1, hpa1⟩ : ∃ z : Int32, z = (bs + r1) := ⟨_, rfl⟩
      rw [← hpa1]
      refine w_iload X hx (hb hby at_175) (pc' := 177) rfl rfl ?_
      refine w_iload X hx (hb hby at_177) (pc' := 179) rfl rfl ?_
      refine w_iadd X hx (hb hby at_179) (pc' := 180) rfl ?_
      refine w_istore (Ls' := #[.val (.int x0), .val (.int x1), .val (.long x2), .second, .val (.long x3), .second, .val (.int x4), .val (.int (0 : Int32)), .val (.int v1), .val (.int qa), .val (.int qb), .val (.int qc), .val (.int qd), .val (.int qe), .val (.int qa), .val (.int r1), .val (.int en1), .val (.int r2), .val (.int en2), .val (.int (0 : Int32)), .val (.int bs), .val (.int bs), .val (.int pb0), .val (.int pa1), .val (.int (bs + en1)), .unset, .unset, .unset, .unset, .unset, .unset, .unset, .unset]) X hx (hb hby at_180) (pc' := 182) rfl rfl ?_
      obtain ⟨pb1, hpb1⟩ : ∃ z : Int32, z = (bs + en1) := ⟨_, rfl⟩
      rw [← hpb1]
      refine w_iload X hx (hb hby at_182) (pc' := 184) rfl rfl ?_
      refine w_iload X hx (hb hby at_184) (pc' := 186) rfl rfl ?_
      refine w_iadd X hx (hb hby at_186) (pc' := 187) rfl ?_
      refine w_istore (Ls' := #[.val (.int x0), .val (.int x1), .val (.long x2), .second, .val (.long x3), .second, .val (.int x4), .val (.int (0 : Int32)), .val (.int v1), .val (.int qa), .val (.int qb), .val (.int qc), .val (.int qd), .val (.int qe), .val (.int qa), .val (.int r1), .val (.int en1), .val (.int r2), .val (.int en2), .val (.int (0 : Int32)), .val (.int bs), .val (.int bs), .val (.int pb0), .val (.int pa1), .val (.int pb1), .val (.int (bs + r2)), .unset, .unset, .unset, .unset, .unset, .unset, .unset]) X hx (hb hby at_187) (pc' := 189) rfl rfl ?_
      obtain ⟨pa2, hpa2⟩ : ∃ z : Int32, z = (bs + r2) := ⟨_, rfl⟩
      rw [← hpa2]
      refine w_iload X hx (hb hby at_189) (pc' := 191) rfl rfl ?_
      refine w_iload X hx (hb hby at_191) (pc' := 193) rfl rfl ?_
      refine w_iadd X hx (hb hby at_193) (pc' := 194) rfl ?_
      refine w_istore (Ls' := #[.val (.int x0), .val (.int x1), .val (.long x2), .second, .val (.long x3), .second, .val (.int x4), .val (.int (0 : Int32)), .val (.int v1), .val (.int qa), .val (.int qb), .val (.int qc), .val (.int qd), .val (.int qe), .val (.int qa), .val (.int r1), .val (.int en1), .val (.int r2), .val (.int en2), .val (.int (0 : Int32)), .val (.int bs), .val (.int bs), .val (.int pb0), .val (.int pa1), .val (.int pb1), .val (.int pa2), .val (.int (bs + en2)), .unset, .unset, .unset, .unset, .unset, .unset]) X hx (hb hby at_194) (pc' := 196) rfl rfl ?_
      obtain ⟨pb2, hpb2⟩ : ∃ z : Int32, z = (bs + en2) := ⟨_, rfl⟩
      rw [← hpb2]
      refine w_iload X hx (hb hby at_196) (pc' := 198) rfl rfl ?_
      have hf198 : (0 : Int32) = (0 : Int32) := (by decide)
      refine w_if_ne X hx (hb hby at_198) (pf := 201) (pt := 209) rfl (by decide) (by decide) (fun hc => absurd hf198 hc) (fun hc198 => ?_)
      refine w_iconst (v := 0) X hx (hb hby at_201) (pc' := 202) rfl rfl ?_
      refine w_newI X hx hZ (cap := 0) e0 (hw _ (List.mem_of_getElem? (i := 3) rfl)) (by decide) (by decide) (by decide) (by decide) (by decide) (hb hby at_202) (pc' := 204) rfl (fun T3 h3 b3 X3 e3 E3 q3 V3 => ?_)
      have g_b3 : n0 ≤ b3 := by rw [q3]; exact Z0
      have V3 : AI Z h3 b3 .int [] := V3
      have zn3 : n0 ≤ h3.size := Nat.le_trans Z0 E3.1
      refine w_astore (Ls' := #[.val (.int x0), .val (.int x1), .val (.long x2), .second, .val (.long x3), .second, .val (.int x4), .val (.int (0 : Int32)), .val (.int v1), .val (.int qa), .val (.int qb), .val (.int qc), .val (.int qd), .val (.int qe), .val (.int qa), .val (.int r1), .val (.int en1), .val (.int r2), .val (.int en2), .val (.int (0 : Int32)), .val (.int bs), .val (.int bs), .val (.int pb0), .val (.int pa1), .val (.int pb1), .val (.int pa2), .val (.int pb2), .val (.ref b3), .unset, .unset, .unset, .unset, .unset]) X3 hx (hb hby at_204) (pc' := 206) rfl rfl rfl ?_
      refine w_goto X3 hx (hb hby at_206) (pc' := 303) (by decide) (by decide) ?_
      refine w_iloadN X3 hx (hb hby at_303) (pc' := 304) rfl rfl ?_
      refine w_istore (Ls' := #[.val (.int x0), .val (.int x1), .val (.long x2), .second, .val (.long x3), .second, .val (.int x4), .val (.int (0 : Int32)), .val (.int v1), .val (.int qa), .val (.int qb), .val (.int qc), .val (.int qd), .val (.int qe), .val (.int qa), .val (.int r1), .val (.int en1), .val (.int r2), .val (.int en2), .val (.int (0 : Int32)), .val (.int bs), .val (.int bs), .val (.int pb0), .val (.int pa1), .val (.int pb1), .val (.int pa2), .val (.int pb2), .val (.ref b3), .val (.int x1), .unset, .unset, .unset, .unset]) X3 hx (hb hby at_304) (pc' := 306) rfl rfl ?_
      refine w_iload X3 hx (hb hby at_306) (pc' := 308) rfl rfl ?_
      have J332_4 : Go p e below s room_1.cells room_1.slots (QL (some (.int 1)) n0) T3 (mkF m 332 #[.val (.int x0), .val (.int x1), .val (.long x2), .second, .val (.long x3), .second, .val (.int x4), .val (.int (0 : Int32)), .val (.int v1), .val (.int qa), .val (.int qb), .val (.int qc), .val (.int qd), .val (.int qe), .val (.int qa), .val (.int r1), .val (.int en1), .val (.int r2), .val (.int en2), .val (.int (0 : Int32)), .val (.int bs), .val (.int bs), .val (.int pb0), .val (.int pa1), .val (.int pb1), .val (.int pa2), .val (.int pb2), .val (.ref b3), .val (.int x1), .unset, .unset, .unset, .unset] []) := by
        refine w_iload X3 hx (hb hby at_332) (pc' := 334) rfl rfl ?_
        refine w_iconst (v := 1) X3 hx (hb hby at_334) (pc' := 335) rfl rfl ?_
        have hf335 : (0 : Int32) < (1 : Int32) := (by decide)
        refine w_icmp_lt X3 hx (hb hby at_335) (pf := 338) (pt := 356) rfl (by decide) (by decide) (fun hc335 => ?_) (fun hc => absurd hf335 hc)
        refine w_iconst (v := 0) X3 hx (hb hby at_356) (pc' := 357) rfl rfl ?_
        refine w_istore (Ls' := #[.val (.int x0), .val (.int x1), .val (.long x2), .second, .val (.long x3), .second, .val (.int x4), .val (.int (0 : Int32)), .val (.int v1), .val (.int qa), .val (.int qb), .val (.int qc), .val (.int qd), .val (.int qe), .val (.int qa), .val (.int r1), .val (.int en1), .val (.int r2), .val (.int en2), .val (.int (0 : Int32)), .val (.int bs), .val (.int bs), .val (.int pb0), .val (.int pa1), .val (.int pb1), .val (.int pa2), .val (.int pb2), .val (.ref b3), .val (.int x1), .val (.int (0 : Int32)), .unset, .unset, .unset]) X3 hx (hb hby at_357) (pc' := 359) rfl rfl ?_
        refine w_iload X3 hx (hb hby at_359) (pc' := 361) rfl rfl ?_
        refine w_iconst (v := 2) X3 hx (hb hby at_361) (pc' := 362) rfl rfl ?_
        have hf362 : (0 : Int32) < (2 : Int32) := (by decide)
        refine w_icmp_lt X3 hx (hb hby at_362) (pf := 365) (pt := 383) rfl (by decide) (by decide) (fun hc362 => ?_) (fun hc => absurd hf362 hc)
        refine w_iconst (v := 0) X3 hx (hb hby at_383) (pc' := 384) rfl rfl ?_
        refine w_istore (Ls' := #[.val (.int x0), .val (.int x1), .val (.long x2), .second, .val (.long x3), .second, .val (.int x4), .val (.int (0 : Int32)), .val (.int v1), .val (.int qa), .val (.int qb), .val (.int qc), .val (.int qd), .val (.int qe), .val (.int qa), .val (.int r1), .val (.int en1), .val (.int r2), .val (.int en2), .val (.int (0 : Int32)), .val (.int bs), .val (.int bs), .val (.int pb0), .val (.int pa1), .val (.int pb1), .val (.int pa2), .val (.int pb2), .val (.ref b3), .val (.int x1), .val (.int (0 : Int32)), .val (.int (0 : Int32)), .unset, .unset]) X3 hx (hb hby at_384) (pc' := 386) rfl rfl ?_
        refine w_iload X3 hx (hb hby at_386) (pc' := 388) rfl rfl ?_
        refine w_iconst (v := 3) X3 hx (hb hby at_388) (pc' := 389) rfl rfl ?_
        have hf389 : (0 : Int32) < (3 : Int32) := (by decide)
        refine w_icmp_lt X3 hx (hb hby at_389) (pf := 392) (pt := 410) rfl (by decide) (by decide) (fun hc389 => ?_) (fun hc => absurd hf389 hc)
        refine w_iconst (v := 0) X3 hx (hb hby at_410) (pc' := 411) rfl rfl ?_
        refine w_istore (Ls' := #[.val (.int x0), .val (.int x1), .val (.long x2), .second, .val (.long x3), .second, .val (.int x4), .val (.int (0 : Int32)), .val (.int v1), .val (.int qa), .val (.int qb), .val (.int qc), .val (.int qd), .val (.int qe), .val (.int qa), .val (.int r1), .val (.int en1), .val (.int r2), .val (.int en2), .val (.int (0 : Int32)), .val (.int bs), .val (.int bs), .val (.int pb0), .val (.int pa1), .val (.int pb1), .val (.int pa2), .val (.int pb2), .val (.ref b3), .val (.int x1), .val (.int (0 : Int32)), .val (.int (0 : Int32)), .val (.int (0 : Int32)), .unset]) X3 hx (hb hby at_411) (pc' := 413) rfl rfl ?_
        refine w_iload X3 hx (hb hby at_413) (pc' := 415) rfl rfl ?_
        have hf415 : (0 : Int32) = (0 : Int32) := (by decide)
        refine w_if_ne X3 hx (hb hby at_415) (pf := 418) (pt := 428) rfl (by decide) (by decide) (fun hc => absurd hf415 hc) (fun hc415 => ?_)
        refine w_iload X3 hx (hb hby at_418) (pc' := 420) rfl rfl ?_
        have hf420 : (0 : Int32) = (0 : Int32) := (by decide)
        refine w_if_ne X3 hx (hb hby at_420) (pf := 423) (pt := 428) rfl (by decide) (by decide) (fun hc => absurd hf420 hc) (fun hc420 => ?_)
        refine w_iload X3 hx (hb hby at_423) (pc' := 425) rfl rfl ?_
        have hf425 : (0 : Int32) = (0 : Int32) := (by decide)
        refine w_if_eq X3 hx (hb hby at_425) (pf := 428) (pt := 432) rfl (by decide) (by decide) (fun hc425 => ?_) (fun hc => absurd hf425 hc)
        refine w_iconst (v := 0) X3 hx (hb hby at_432) (pc' := 433) rfl rfl ?_
        refine w_istore (Ls' := #[.val (.int x0), .val (.int x1), .val (.long x2), .second, .val (.long x3), .second, .val (.int x4), .val (.int (0 : Int32)), .val (.int v1), .val (.int qa), .val (.int qb), .val (.int qc), .val (.int qd), .val (.int qe), .val (.int qa), .val (.int r1), .val (.int en1), .val (.int r2), .val (.int en2), .val (.int (0 : Int32)), .val (.int bs), .val (.int bs), .val (.int pb0), .val (.int pa1), .val (.int pb1), .val (.int pa2), .val (.int pb2), .val (.ref b3), .val (.int x1), .val (.int (0 : Int32)), .val (.int (0 : Int32)), .val (.int (0 : Int32)), .val (.int (0 : Int32))]) X3 hx (hb hby at_433) (pc' := 435) rfl rfl ?_
        refine w_aload X3 hx (hb hby at_435) (pc' := 437) rfl rfl rfl ?_
        refine w_iload X3 hx (hb hby at_437) (pc' := 439) rfl rfl ?_
        refine w_callS (argsL := [(.ref b3), (.int x1)]) (rest := []) X3 hx hZ hown e3 (rm1_n0 l Z a0 hw b3 x1 h3 n0  V3) (hw _ (List.mem_of_getElem? (i := 4) rfl)) (hw _ (List.mem_of_getElem? (i := 5) rfl)) (hw _ (List.mem_of_getElem? (i := 6) rfl)) (hw _ (List.mem_of_getElem? (i := 7) rfl)) (by decide) (by decide) (W := 0) (by decide) (by decide) (by decide) (by rw [hml]; rfl) (lenOf pd_0 rfl) (Nat.le_refl _) rfl (hb hby at_439) (pc' := 442) rfl (fun T5 L5 v5 X5 hQ5 => ?_)
        obtain ⟨rfl, N5q, e5⟩ := hQ5
        have N5 := Fr.app N0 N5q
        have X5 : Stand p l e room_1 s m _ below meth c T5 _ 1 0 := X5
        show Go p e below s room_1.cells room_1.slots (QL (some (.int 1)) n0) T5 (mkF m 442 #[.val (.int x0), .val (.int x1), .val (.long x2), .second, .val (.long x3), .second, .val (.int x4), .val (.int (0 : Int32)), .val (.int v1), .val (.int qa), .val (.int qb), .val (.int qc), .val (.int qd), .val (.int qe), .val (.int qa), .val (.int r1), .val (.int en1), .val (.int r2), .val (.int en2), .val (.int (0 : Int32)), .val (.int bs), .val (.int bs), .val (.int pb0), .val (.int pa1), .val (.int pb1), .val (.int pa2), .val (.int pb2), .val (.ref b3), .val (.int x1), .val (.int (0 : Int32)), .val (.int (0 : Int32)), .val (.int (0 : Int32)), .val (.int (0 : Int32))] [(.int (K1_n0  x1))])
        refine w_iload X5 hx (hb hby at_442) (pc' := 444) rfl rfl ?_
        have hf444 : (K1_n0  x1) = (0 : Int32) := rfl
        refine w_icmp_ne X5 hx (hb hby at_444) (pf := 447) (pt := 451) rfl (by decide) (by decide) (fun hc => absurd hf444 hc) (fun hc444 => ?_)
        refine w_iconst (v := 1) X5 hx (hb hby at_447) (pc' := 448) rfl rfl ?_
        refine w_goto X5 hx (hb hby at_448) (pc' := 452) (by decide) (by decide) ?_
        exact w_retZ X5 hx hret hlk (hb hby at_452) (by decide) (by decide) ⟨rfl, N5⟩
      refine w_if_eq X3 hx (hb hby at_308) (pf := 311) (pt := 332) rfl (by decide) (by decide) (fun hc308 => ?_) (fun hc308 => ?_)
      · exact J332_4
      · refine w_iload X3 hx (hb hby at_311) (pc' := 313) rfl rfl ?_
        have hf313 : ¬ ((0 : Int32) < (0 : Int32)) := (by decide)
        refine w_if_le X3 hx (hb hby at_313) (pf := 316) (pt := 332) rfl (by decide) (by decide) (fun hc313 => ?_) (fun hc => absurd hc hf313)
        exact J332_4
    · refine w_iconst (v := 0) X hx (hb hby at_105) (pc' := 106) rfl rfl ?_
      refine w_istore (Ls' := #[.val (.int x0), .val (.int x1), .val (.long x2), .second, .val (.long x3), .second, .val (.int x4), .val (.int (1 : Int32)), .val (.int v1), .val (.int qa), .val (.int qb), .val (.int qc), .val (.int qd), .val (.int qe), .val (.int qa), .val (.int r1), .val (.int en1), .val (.int r2), .val (.int en2), .val (.int (0 : Int32)), .unset, .unset, .unset, .unset, .unset, .unset, .unset, .unset, .unset, .unset, .unset, .unset, .unset]) X hx (hb hby at_106) (pc' := 108) rfl rfl ?_
      refine w_iload X hx (hb hby at_108) (pc' := 110) rfl rfl ?_
      refine w_iconst (v := 1) X hx (hb hby at_110) (pc' := 111) rfl rfl ?_
      have hf111 : (1 : Int32) = (1 : Int32) := (by decide)
      refine w_icmp_ne X hx (hb hby at_111) (pf := 114) (pt := 121) rfl (by decide) (by decide) (fun hc => absurd hf111 hc) (fun hc111 => ?_)
      refine w_iload X hx (hb hby at_114) (pc' := 116) rfl rfl ?_
      refine w_istore (Ls' := #[.val (.int x0), .val (.int x1), .val (.long x2), .second, .val (.long x3), .second, .val (.int x4), .val (.int (1 : Int32)), .val (.int v1), .val (.int qa), .val (.int qb), .val (.int qc), .val (.int qd), .val (.int qe), .val (.int qa), .val (.int r1), .val (.int en1), .val (.int r2), .val (.int en2), .val (.int qa), .unset, .unset, .unset, .unset, .unset, .unset, .unset, .unset, .unset, .unset, .unset, .unset, .unset]) X hx (hb hby at_116) (pc' := 118) rfl rfl ?_
      refine w_goto X hx (hb hby at_118) (pc' := 144) (by decide) (by decide) ?_
      refine w_iload X hx (hb hby at_144) (pc' := 146) rfl rfl ?_
      refine w_ldc X hx hZ hown (hw _ (List.mem_of_getElem? (i := 1) rfl)) (hb hby at_146) (pc' := 148) rfl ?_
      refine w_iand X hx (hb hby at_148) (pc' := 149) rfl ?_
      refine w_ldc X hx hZ hown (hw _ (List.mem_of_getElem? (i := 2) rfl)) (hb hby at_149) (pc' := 151) rfl ?_
      refine w_iload X hx (hb hby at_151) (pc' := 153) rfl rfl ?_
      refine w_isub X hx (hb hby at_153) (pc' := 154) rfl ?_
      refine w_irem X hx (hb hby at_154) (pc' := 155) rfl (by first | decide | exact own_d1 (own_e0 hqa).1 (own_e0 hqa).2 | exact own_d1 (own_dd2 hqa hqb hqc hr1 hen1).1 (own_dd2 hqa hqb hqc hr1 hen1).2 | exact own_d1 (own_dd3 hqa hqb hqc hqd hqe hr1 hen1 hr2 hen2).1 (own_dd3 hqa hqb hqc hqd hqe hr1 hen1 hr2 hen2).2) ?_
      refine w_istore (Ls' := #[.val (.int x0), .val (.int x1), .val (.long x2), .second, .val (.long x3), .second, .val (.int x4), .val (.int (1 : Int32)), .val (.int v1), .val (.int qa), .val (.int qb), .val (.int qc), .val (.int qd), .val (.int qe), .val (.int qa), .val (.int r1), .val (.int en1), .val (.int r2), .val (.int en2), .val (.int qa), .val (.int ((x4 &&& (2147483647 : Int32)) % ((1114112 : Int32) - qa))), .unset, .unset, .unset, .unset, .unset, .unset, .unset, .unset, .unset, .unset, .unset, .unset]) X hx (hb hby at_155) (pc' := 157) rfl rfl ?_
      obtain ⟨bs, hbs⟩ : ∃ z : Int32, z = ((x4 &&& (2147483647 : Int32)) % ((1114112 : Int32) - qa)) := ⟨_, rfl⟩
      rw [← hbs]
      refine w_iload X hx (hb hby at_157) (pc' := 159) rfl rfl ?_
      refine w_istore (Ls' := #[.val (.int x0), .val (.int x1), .val (.long x2), .second, .val (.long x3), .second, .val (.int x4), .val (.int (1 : Int32)), .val (.int v1), .val (.int qa), .val (.int qb), .val (.int qc), .val (.int qd), .val (.int qe), .val (.int qa), .val (.int r1), .val (.int en1), .val (.int r2), .val (.int en2), .val (.int qa), .val (.int bs), .val (.int bs), .unset, .unset, .unset, .unset, .unset, .unset, .unset, .unset, .unset, .unset, .unset]) X hx (hb hby at_159) (pc' := 161) rfl rfl ?_
      refine w_iload X hx (hb hby at_161) (pc' := 163) rfl rfl ?_
      refine w_iload X hx (hb hby at_163) (pc' := 165) rfl rfl ?_
      refine w_iadd X hx (hb hby at_165) (pc' := 166) rfl ?_
      refine w_istore (Ls' := #[.val (.int x0), .val (.int x1), .val (.long x2), .second, .val (.long x3), .second, .val (.int x4), .val (.int (1 : Int32)), .val (.int v1), .val (.int qa), .val (.int qb), .val (.int qc), .val (.int qd), .val (.int qe), .val (.int qa), .val (.int r1), .val (.int en1), .val (.int r2), .val (.int en2), .val (.int qa), .val (.int bs), .val (.int bs), .val (.int (bs + qa)), .unset, .unset, .unset, .unset, .unset, .unset, .unset, .unset, .unset, .unset]) X hx (hb hby at_166) (pc' := 168) rfl rfl ?_
      obtain ⟨pb0, hpb0⟩ : ∃ z : Int32, z = (bs + qa) := ⟨_, rfl⟩
      rw [← hpb0]
      refine w_iload X hx (hb hby at_168) (pc' := 170) rfl rfl ?_
      refine w_iload X hx (hb hby at_170) (pc' := 172) rfl rfl ?_
      refine w_iadd X hx (hb hby at_172) (pc' := 173) rfl ?_
      refine w_istore (Ls' := #[.val (.int x0), .val (.int x1), .val (.long x2), .second, .val (.long x3), .second, .val (.int x4), .val (.int (1 : Int32)), .val (.int v1), .val (.int qa), .val (.int qb), .val (.int qc), .val (.int qd), .val (.int qe), .val (.int qa), .val (.int r1), .val (.int en1), .val (.int r2), .val (.int en2), .val (.int qa), .val (.int bs), .val (.int bs), .val (.int pb0), .val (.int (bs + r1)), .unset, .unset, .unset, .unset, .unset, .unset, .unset, .unset, .unset]) X hx (hb hby at_173) (pc' := 175) rfl rfl ?_
      obtain ⟨pa1, hpa1⟩ : ∃ z : Int32, z = (bs + r1) := ⟨_, rfl⟩
      rw [← hpa1]
      refine w_iload X hx (hb hby at_175) (pc' := 177) rfl rfl ?_
      refine w_iload X hx (hb hby at_177) (pc' := 179) rfl rfl ?_
      refine w_iadd X hx (hb hby at_179) (pc' := 180) rfl ?_
      refine w_istore (Ls' := #[.val (.int x0), .val (.int x1), .val (.long x2), .second, .val (.long x3), .second, .val (.int x4), .val (.int (1 : Int32)), .val (.int v1), .val (.int qa), .val (.int qb), .val (.int qc), .val (.int qd), .val (.int qe), .val (.int qa), .val (.int r1), .val (.int en1), .val (.int r2), .val (.int en2), .val (.int qa), .val (.int bs), .val (.int bs), .val (.int pb0), .val (.int pa1), .val (.int (bs + en1)), .unset, .unset, .unset, .unset, .unset, .unset, .unset, .unset]) X hx (hb hby at_180) (pc' := 182) rfl rfl ?_
      obtain ⟨pb1, hpb1⟩ : ∃ z : Int32, z = (bs + en1) := ⟨_, rfl⟩
      rw [← hpb1]
      refine w_iload X hx (hb hby at_182) (pc' := 184) rfl rfl ?_
      refine w_iload X hx (hb hby at_184) (pc' := 186) rfl rfl ?_
      refine w_iadd X hx (hb hby at_186) (pc' := 187) rfl ?_
      refine w_istore (Ls' := #[.val (.int x0), .val (.int x1), .val (.long x2), .second, .val (.long x3), .second, .val (.int x4), .val (.int (1 : Int32)), .val (.int v1), .val (.int qa), .val (.int qb), .val (.int qc), .val (.int qd), .val (.int qe), .val (.int qa), .val (.int r1), .val (.int en1), .val (.int r2), .val (.int en2), .val (.int qa), .val (.int bs), .val (.int bs), .val (.int pb0), .val (.int pa1), .val (.int pb1), .val (.int (bs + r2)), .unset, .unset, .unset, .unset, .unset, .unset, .unset]) X hx (hb hby at_187) (pc' := 189) rfl rfl ?_
      obtain ⟨pa2, hpa2⟩ : ∃ z : Int32, z = (bs + r2) := ⟨_, rfl⟩
      rw [← hpa2]
      refine w_iload X hx (hb hby at_189) (pc' := 191) rfl rfl ?_
      refine w_iload X hx (hb hby at_191) (pc' := 193) rfl rfl ?_
      refine w_iadd X hx (hb hby at_193) (pc' := 194) rfl ?_
      refine w_istore (Ls' := #[.val (.int x0), .val (.int x1), .val (.long x2), .second, .val (.long x3), .second, .val (.int x4), .val (.int (1 : Int32)), .val (.int v1), .val (.int qa), .val (.int qb), .val (.int qc), .val (.int qd), .val (.int qe), .val (.int qa), .val (.int r1), .val (.int en1), .val (.int r2), .val (.int en2), .val (.int qa), .val (.int bs), .val (.int bs), .val (.int pb0), .val (.int pa1), .val (.int pb1), .val (.int pa2), .val (.int (bs + en2)), .unset, .unset, .unset, .unset, .unset, .unset]) X hx (hb hby at_194) (pc' := 196) rfl rfl ?_
      obtain ⟨pb2, hpb2⟩ : ∃ z : Int32, z = (bs + en2) := ⟨_, rfl⟩
      rw [← hpb2]
      refine w_iload X hx (hb hby at_196) (pc' := 198) rfl rfl ?_
      have hf198 : ¬ ((1 : Int32) = (0 : Int32)) := (by decide)
      refine w_if_ne X hx (hb hby at_198) (pf := 201) (pt := 209) rfl (by decide) (by decide) (fun hc198 => ?_) (fun hc => absurd hc hf198)
      refine w_iload X hx (hb hby at_209) (pc' := 211) rfl rfl ?_
      refine w_iconst (v := 1) X hx (hb hby at_211) (pc' := 212) rfl rfl ?_
      have hf212 : (1 : Int32) = (1 : Int32) := (by decide)
      refine w_icmp_ne X hx (hb hby at_212) (pf := 215) (pt := 233) rfl (by decide) (by decide) (fun hc => absurd hf212 hc) (fun hc212 => ?_)
      refine w_iconst (v := 2) X hx (hb hby at_215) (pc' := 216) rfl rfl ?_
      refine w_newI X hx hZ (cap := 2) e0 (hw _ (List.mem_of_getElem? (i := 3) rfl)) (by decide) (by decide) (by decide) (by decide) (by decide) (hb hby at_216) (pc' := 218) rfl (fun T6 h6 b6 X6 e6 E6 q6 V6 => ?_)
      have g_b6 : n0 ≤ b6 := by rw [q6]; exact Z0
      have V6 : AI Z h6 b6 .int [(0 : Int32), (0 : Int32)] := V6
      have zn6 : n0 ≤ h6.size := Nat.le_trans Z0 E6.1
      refine w_dup X6 hx (hb hby at_218) (pc' := 219) rfl rfl ?_
      refine w_iconst (v := 0) X6 hx (hb hby at_219) (pc' := 220) rfl rfl ?_
      refine w_iload X6 hx (hb hby at_220) (pc' := 222) rfl rfl ?_
      refine w_iastore X6 hx hZ e6 V6 (by decide) (by show _ < 2; decide) (hb hby at_222) (pc' := 223) rfl (fun T7 h7 X7 e7 W7 V7 => ?_)
      have V7 : AI Z h7 b6 .int [bs, (0 : Int32)] := V7
      have N7 := Fr.snoc X7 N0 g_b6
      have zn7 : n0 ≤ h7.size := by rw [W7.size]; exact zn6
      refine w_dup X7 hx (hb hby at_223) (pc' := 224) rfl rfl ?_
      refine w_iconst (v := 1) X7 hx (hb hby at_224) (pc' := 225) rfl rfl ?_
      refine w_iload X7 hx (hb hby at_225) (pc' := 227) rfl rfl ?_
      refine w_iastore X7 hx hZ e7 V7 (by decide) (by show _ < 2; decide) (hb hby at_227) (pc' := 228) rfl (fun T8 h8 X8 e8 W8 V8 => ?_)
      have V8 : AI Z h8 b6 .int [bs, pb0] := V8
      have N8 := Fr.snoc X8 N7 g_b6
      have zn8 : n0 ≤ h8.size := by rw [W8.size]; exact zn7
      refine w_astore (Ls' := #[.val (.int x0), .val (.int x1), .val (.long x2), .second, .val (.long x3), .second, .val (.int x4), .val (.int (1 : Int32)), .val (.int v1), .val (.int qa), .val (.int qb), .val (.int qc), .val (.int qd), .val (.int qe), .val (.int qa), .val (.int r1), .val (.int en1), .val (.int r2), .val (.int en2), .val (.int qa), .val (.int bs), .val (.int bs), .val (.int pb0), .val (.int pa1), .val (.int pb1), .val (.int pa2), .val (.int pb2), .val (.ref b6), .unset, .unset, .unset, .unset, .unset]) X8 hx (hb hby at_228) (pc' := 230) rfl rfl rfl ?_
      refine w_goto X8 hx (hb hby at_230) (pc' := 303) (by decide) (by decide) ?_
      refine w_iloadN X8 hx (hb hby at_303) (pc' := 304) rfl rfl ?_
      refine w_istore (Ls' := #[.val (.int x0), .val (.int x1), .val (.long x2), .second, .val (.long x3), .second, .val (.int x4), .val (.int (1 : Int32)), .val (.int v1), .val (.int qa), .val (.int qb), .val (.int qc), .val (.int qd), .val (.int qe), .val (.int qa), .val (.int r1), .val (.int en1), .val (.int r2), .val (.int en2), .val (.int qa), .val (.int bs), .val (.int bs), .val (.int pb0), .val (.int pa1), .val (.int pb1), .val (.int pa2), .val (.int pb2), .val (.ref b6), .val (.int x1), .unset, .unset, .unset, .unset]) X8 hx (hb hby at_304) (pc' := 306) rfl rfl ?_
      refine w_iload X8 hx (hb hby at_306) (pc' := 308) rfl rfl ?_
      have J332_10 : ∀ (v9 : Int32), v9 = (if v1 = (0 : Int32) then x1 else ((bs - (1 : Int32)) + ((x1 &&& (2147483647 : Int32)) % (qa + (3 : Int32))))) → Go p e below s room_1.cells room_1.slots (QL (some (.int 1)) n0) T8 (mkF m 332 #[.val (.int x0), .val (.int x1), .val (.long x2), .second, .val (.long x3), .second, .val (.int x4), .val (.int (1 : Int32)), .val (.int v1), .val (.int qa), .val (.int qb), .val (.int qc), .val (.int qd), .val (.int qe), .val (.int qa), .val (.int r1), .val (.int en1), .val (.int r2), .val (.int en2), .val (.int qa), .val (.int bs), .val (.int bs), .val (.int pb0), .val (.int pa1), .val (.int pb1), .val (.int pa2), .val (.int pb2), .val (.ref b6), .val (.int v9), .unset, .unset, .unset, .unset] []) := by
        intro v9 hv9
        refine w_iload X8 hx (hb hby at_332) (pc' := 334) rfl rfl ?_
        refine w_iconst (v := 1) X8 hx (hb hby at_334) (pc' := 335) rfl rfl ?_
        have hf335 : ¬ ((1 : Int32) < (1 : Int32)) := (by decide)
        refine w_icmp_lt X8 hx (hb hby at_335) (pf := 338) (pt := 356) rfl (by decide) (by decide) (fun hc => absurd hc hf335) (fun hc335 => ?_)
        refine w_iload X8 hx (hb hby at_338) (pc' := 340) rfl rfl ?_
        refine w_iload X8 hx (hb hby at_340) (pc' := 342) rfl rfl ?_
        have J357_12 : ∀ (v11 : Int32), v11 = (if v9 < bs then (0 : Int32) else (if pb0 < v9 then (0 : Int32) else (1 : Int32))) → Go p e below s room_1.cells room_1.slots (QL (some (.int 1)) n0) T8 (mkF m 357 #[.val (.int x0), .val (.int x1), .val (.long x2), .second, .val (.long x3), .second, .val (.int x4), .val (.int (1 : Int32)), .val (.int v1), .val (.int qa), .val (.int qb), .val (.int qc), .val (.int qd), .val (.int qe), .val (.int qa), .val (.int r1), .val (.int en1), .val (.int r2), .val (.int en2), .val (.int qa), .val (.int bs), .val (.int bs), .val (.int pb0), .val (.int pa1), .val (.int pb1), .val (.int pa2), .val (.int pb2), .val (.ref b6), .val (.int v9), .unset, .unset, .unset, .unset] [(.int v11)]) := by
          intro v11 hv11
          refine w_istore (Ls' := #[.val (.int x0), .val (.int x1), .val (.long x2), .second, .val (.long x3), .second, .val (.int x4), .val (.int (1 : Int32)), .val (.int v1), .val (.int qa), .val (.int qb), .val (.int qc), .val (.int qd), .val (.int qe), .val (.int qa), .val (.int r1), .val (.int en1), .val (.int r2), .val (.int en2), .val (.int qa), .val (.int bs), .val (.int bs), .val (.int pb0), .val (.int pa1), .val (.int pb1), .val (.int pa2), .val (.int pb2), .val (.ref b6), .val (.int v9), .val (.int v11), .unset, .unset, .unset]) X8 hx (hb hby at_357) (pc' := 359) rfl rfl ?_
          refine w_iload X8 hx (hb hby at_359) (pc' := 361) rfl rfl ?_
          refine w_iconst (v := 2) X8 hx (hb hby at_361) (pc' := 362) rfl rfl ?_
          have hf362 : (1 : Int32) < (2 : Int32) := (by decide)
          refine w_icmp_lt X8 hx (hb hby at_362) (pf := 365) (pt := 383) rfl (by decide) (by decide) (fun hc362 => ?_) (fun hc => absurd hf362 hc)
          refine w_iconst (v := 0) X8 hx (hb hby at_383) (pc' := 384) rfl rfl ?_
          refine w_istore (Ls' := #[.val (.int x0), .val (.int x1), .val (.long x2), .second, .val (.long x3), .second, .val (.int x4), .val (.int (1 : Int32)), .val (.int v1), .val (.int qa), .val (.int qb), .val (.int qc), .val (.int qd), .val (.int qe), .val (.int qa), .val (.int r1), .val (.int en1), .val (.int r2), .val (.int en2), .val (.int qa), .val (.int bs), .val (.int bs), .val (.int pb0), .val (.int pa1), .val (.int pb1), .val (.int pa2), .val (.int pb2), .val (.ref b6), .val (.int v9), .val (.int v11), .val (.int (0 : Int32)), .unset, .unset]) X8 hx (hb hby at_384) (pc' := 386) rfl rfl ?_
          refine w_iload X8 hx (hb hby at_386) (pc' := 388) rfl rfl ?_
          refine w_iconst (v := 3) X8 hx (hb hby at_388) (pc' := 389) rfl rfl ?_
          have hf389 : (1 : Int32) < (3 : Int32) := (by decide)
          refine w_icmp_lt X8 hx (hb hby at_389) (pf := 392) (pt := 410) rfl (by decide) (by decide) (fun hc389 => ?_) (fun hc => absurd hf389 hc)
          refine w_iconst (v := 0) X8 hx (hb hby at_410) (pc' := 411) rfl rfl ?_
          refine w_istore (Ls' := #[.val (.int x0), .val (.int x1), .val (.long x2), .second, .val (.long x3), .second, .val (.int x4), .val (.int (1 : Int32)), .val (.int v1), .val (.int qa), .val (.int qb), .val (.int qc), .val (.int qd), .val (.int qe), .val (.int qa), .val (.int r1), .val (.int en1), .val (.int r2), .val (.int en2), .val (.int qa), .val (.int bs), .val (.int bs), .val (.int pb0), .val (.int pa1), .val (.int pb1), .val (.int pa2), .val (.int pb2), .val (.ref b6), .val (.int v9), .val (.int v11), .val (.int (0 : Int32)), .val (.int (0 : Int32)), .unset]) X8 hx (hb hby at_411) (pc' := 413) rfl rfl ?_
          refine w_iload X8 hx (hb hby at_413) (pc' := 415) rfl rfl ?_
          have J433_14 : ∀ (v13 : Int32), v13 = (if v11 = (0 : Int32) then (0 : Int32) else (1 : Int32)) → Go p e below s room_1.cells room_1.slots (QL (some (.int 1)) n0) T8 (mkF m 433 #[.val (.int x0), .val (.int x1), .val (.long x2), .second, .val (.long x3), .second, .val (.int x4), .val (.int (1 : Int32)), .val (.int v1), .val (.int qa), .val (.int qb), .val (.int qc), .val (.int qd), .val (.int qe), .val (.int qa), .val (.int r1), .val (.int en1), .val (.int r2), .val (.int en2), .val (.int qa), .val (.int bs), .val (.int bs), .val (.int pb0), .val (.int pa1), .val (.int pb1), .val (.int pa2), .val (.int pb2), .val (.ref b6), .val (.int v9), .val (.int v11), .val (.int (0 : Int32)), .val (.int (0 : Int32)), .unset] [(.int v13)]) := by
            intro v13 hv13
            refine w_istore (Ls' := #[.val (.int x0), .val (.int x1), .val (.long x2), .second, .val (.long x3), .second, .val (.int x4), .val (.int (1 : Int32)), .val (.int v1), .val (.int qa), .val (.int qb), .val (.int qc), .val (.int qd), .val (.int qe), .val (.int qa), .val (.int r1), .val (.int en1), .val (.int r2), .val (.int en2), .val (.int qa), .val (.int bs), .val (.int bs), .val (.int pb0), .val (.int pa1), .val (.int pb1), .val (.int pa2), .val (.int pb2), .val (.ref b6), .val (.int v9), .val (.int v11), .val (.int (0 : Int32)), .val (.int (0 : Int32)), .val (.int v13)]) X8 hx (hb hby at_433) (pc' := 435) rfl rfl ?_
            refine w_aload X8 hx (hb hby at_435) (pc' := 437) rfl rfl rfl ?_
            refine w_iload X8 hx (hb hby at_437) (pc' := 439) rfl rfl ?_
            refine w_callS (argsL := [(.ref b6), (.int v9)]) (rest := []) X8 hx hZ hown e8 (rm1_n2 l Z a0 hw b6 v9 h8 n0 bs pb0 V8) (hw _ (List.mem_of_getElem? (i := 4) rfl)) (hw _ (List.mem_of_getElem? (i := 5) rfl)) (hw _ (List.mem_of_getElem? (i := 6) rfl)) (hw _ (List.mem_of_getElem? (i := 7) rfl)) (by decide) (by decide) (W := 0) (by decide) (by decide) (by decide) (by rw [hml]; rfl) (lenOf pd_0 rfl) (Nat.le_refl _) rfl (hb hby at_439) (pc' := 442) rfl (fun T15 L15 v15 X15 hQ15 => ?_)
            obtain ⟨rfl, N15q, e15⟩ := hQ15
            have N15 := Fr.app N8 N15q
            have X15 : Stand p l e room_1 s m _ below meth c T15 _ 1 2 := X15
            show Go p e below s room_1.cells room_1.slots (QL (some (.int 1)) n0) T15 (mkF m 442 #[.val (.int x0), .val (.int x1), .val (.long x2), .second, .val (.long x3), .second, .val (.int x4), .val (.int (1 : Int32)), .val (.int v1), .val (.int qa), .val (.int qb), .val (.int qc), .val (.int qd), .val (.int qe), .val (.int qa), .val (.int r1), .val (.int en1), .val (.int r2), .val (.int en2), .val (.int qa), .val (.int bs), .val (.int bs), .val (.int pb0), .val (.int pa1), .val (.int pb1), .val (.int pa2), .val (.int pb2), .val (.ref b6), .val (.int v9), .val (.int v11), .val (.int (0 : Int32)), .val (.int (0 : Int32)), .val (.int v13)] [(.int (K1_n2 bs pb0 v9))])
            refine w_iload X15 hx (hb hby at_442) (pc' := 444) rfl rfl ?_
            have hf444 : (K1_n2 bs pb0 v9) = v13 := own_l1 hv11 hv13
            refine w_icmp_ne X15 hx (hb hby at_444) (pf := 447) (pt := 451) rfl (by decide) (by decide) (fun hc => absurd hf444 hc) (fun hc444 => ?_)
            refine w_iconst (v := 1) X15 hx (hb hby at_447) (pc' := 448) rfl rfl ?_
            refine w_goto X15 hx (hb hby at_448) (pc' := 452) (by decide) (by decide) ?_
            exact w_retZ X15 hx hret hlk (hb hby at_452) (by decide) (by decide) ⟨rfl, N15⟩
          refine w_if_ne X8 hx (hb hby at_415) (pf := 418) (pt := 428) rfl (by decide) (by decide) (fun hc415 => ?_) (fun hc415 => ?_)
          · refine w_iconst (v := 1) X8 hx (hb hby at_428) (pc' := 429) rfl rfl ?_
            refine w_goto X8 hx (hb hby at_429) (pc' := 433) (by decide) (by decide) ?_
            exact J433_14 ((1 : Int32)) (by rw [if_neg (show ¬ (v11 = (0 : Int32)) from (by assumption))])
          · refine w_iload X8 hx (hb hby at_418) (pc' := 420) rfl rfl ?_
            have hf420 : (0 : Int32) = (0 : Int32) := (by decide)
            refine w_if_ne X8 hx (hb hby at_420) (pf := 423) (pt := 428) rfl (by decide) (by decide) (fun hc => absurd hf420 hc) (fun hc420 => ?_)
            refine w_iload X8 hx (hb hby at_423) (pc' := 425) rfl rfl ?_
            have hf425 : (0 : Int32) = (0 : Int32) := (by decide)
            refine w_if_eq X8 hx (hb hby at_425) (pf := 428) (pt := 432) rfl (by decide) (by decide) (fun hc425 => ?_) (fun hc => absurd hf425 hc)
            refine w_iconst (v := 0) X8 hx (hb hby at_432) (pc' := 433) rfl rfl ?_
            exact J433_14 ((0 : Int32)) (by rw [if_pos (show v11 = (0 : Int32) from (by assumption))])
        refine w_icmp_gt X8 hx (hb hby at_342) (pf := 345) (pt := 356) rfl (by decide) (by decide) (fun hc342 => ?_) (fun hc342 => ?_)
        · refine w_iconst (v := 0) X8 hx (hb hby at_356) (pc' := 357) rfl rfl ?_
          exact J357_12 ((0 : Int32)) (by rw [if_pos (show v9 < bs from (by assumption))])
        · refine w_iload X8 hx (hb hby at_345) (pc' := 347) rfl rfl ?_
          refine w_iload X8 hx (hb hby at_347) (pc' := 349) rfl rfl ?_
          refine w_icmp_gt X8 hx (hb hby at_349) (pf := 352) (pt := 356) rfl (by decide) (by decide) (fun hc349 => ?_) (fun hc349 => ?_)
          · refine w_iconst (v := 0) X8 hx (hb hby at_356) (pc' := 357) rfl rfl ?_
            exact J357_12 ((0 : Int32)) (by rw [if_neg (show ¬ (v9 < bs) from (by assumption)), if_pos (show pb0 < v9 from (by assumption))])
          · refine w_iconst (v := 1) X8 hx (hb hby at_352) (pc' := 353) rfl rfl ?_
            refine w_goto X8 hx (hb hby at_353) (pc' := 357) (by decide) (by decide) ?_
            exact J357_12 ((1 : Int32)) (by rw [if_neg (show ¬ (v9 < bs) from (by assumption)), if_neg (show ¬ (pb0 < v9) from (by assumption))])
      refine w_if_eq X8 hx (hb hby at_308) (pf := 311) (pt := 332) rfl (by decide) (by decide) (fun hc308 => ?_) (fun hc308 => ?_)
      · exact J332_10 (x1) (by rw [if_pos (show v1 = (0 : Int32) from (by assumption))])
      · refine w_iload X8 hx (hb hby at_311) (pc' := 313) rfl rfl ?_
        have hf313 : (0 : Int32) < (1 : Int32) := (by decide)
        refine w_if_le X8 hx (hb hby at_313) (pf := 316) (pt := 332) rfl (by decide) (by decide) (fun hc => absurd hf313 hc) (fun hc313 => ?_)
        refine w_iload X8 hx (hb hby at_316) (pc' := 318) rfl rfl ?_
        refine w_iconst (v := 1) X8 hx (hb hby at_318) (pc' := 319) rfl rfl ?_
        refine w_isub X8 hx (hb hby at_319) (pc' := 320) rfl ?_
        refine w_iloadN X8 hx (hb hby at_320) (pc' := 321) rfl rfl ?_
        refine w_ldc X8 hx hZ hown (hw _ (List.mem_of_getElem? (i := 1) rfl)) (hb hby at_321) (pc' := 323) rfl ?_
        refine w_iand X8 hx (hb hby at_323) (pc' := 324) rfl ?_
        refine w_iload X8 hx (hb hby at_324) (pc' := 326) rfl rfl ?_
        refine w_iconst (v := 3) X8 hx (hb hby at_326) (pc' := 327) rfl rfl ?_
        refine w_iadd X8 hx (hb hby at_327) (pc' := 328) rfl ?_
        refine w_irem X8 hx (hb hby at_328) (pc' := 329) rfl (by first | decide | exact own_d2 (own_e0 hqa).1 (own_e0 hqa).2 | exact own_d2 (own_dd2 hqa hqb hqc hr1 hen1).1 (own_dd2 hqa hqb hqc hr1 hen1).2 | exact own_d2 (own_dd3 hqa hqb hqc hqd hqe hr1 hen1 hr2 hen2).1 (own_dd3 hqa hqb hqc hqd hqe hr1 hen1 hr2 hen2).2) ?_
        refine w_iadd X8 hx (hb hby at_329) (pc' := 330) rfl ?_
        refine w_istore (Ls' := #[.val (.int x0), .val (.int x1), .val (.long x2), .second, .val (.long x3), .second, .val (.int x4), .val (.int (1 : Int32)), .val (.int v1), .val (.int qa), .val (.int qb), .val (.int qc), .val (.int qd), .val (.int qe), .val (.int qa), .val (.int r1), .val (.int en1), .val (.int r2), .val (.int en2), .val (.int qa), .val (.int bs), .val (.int bs), .val (.int pb0), .val (.int pa1), .val (.int pb1), .val (.int pa2), .val (.int pb2), .val (.ref b6), .val (.int ((bs - (1 : Int32)) + ((x1 &&& (2147483647 : Int32)) % (qa + (3 : Int32))))), .unset, .unset, .unset, .unset]) X8 hx (hb hby at_330) (pc' := 332) rfl rfl ?_
        exact J332_10 (((bs - (1 : Int32)) + ((x1 &&& (2147483647 : Int32)) % (qa + (3 : Int32))))) (by rw [if_neg (show ¬ (v1 = (0 : Int32)) from (by assumption))])
    · refine w_iconst (v := 0) X hx (hb hby at_105) (pc' := 106) rfl rfl ?_
      refine w_istore (Ls' := #[.val (.int x0), .val (.int x1), .val (.long x2), .second, .val (.long x3), .second, .val (.int x4), .val (.int (2 : Int32)), .val (.int v1), .val (.int qa), .val (.int qb), .val (.int qc), .val (.int qd), .val (.int qe), .val (.int qa), .val (.int r1), .val (.int en1), .val (.int r2), .val (.int en2), .val (.int (0 : Int32)), .unset, .unset, .unset, .unset, .unset, .unset, .unset, .unset, .unset, .unset, .unset, .unset, .unset]) X hx (hb hby at_106) (pc' := 108) rfl rfl ?_
      refine w_iload X hx (hb hby at_108) (pc' := 110) rfl rfl ?_
      refine w_iconst (v := 1) X hx (hb hby at_110) (pc' := 111) rfl rfl ?_
      have hf111 : ¬ ((2 : Int32) = (1 : Int32)) := (by decide)
      refine w_icmp_ne X hx (hb hby at_111) (pf := 114) (pt := 121) rfl (by decide) (by decide) (fun hc111 => ?_) (fun hc => absurd hc hf111)
      refine w_iload X hx (hb hby at_121) (pc' := 123) rfl rfl ?_
      refine w_iconst (v := 2) X hx (hb hby at_123) (pc' := 124) rfl rfl ?_
      have hf124 : (2 : Int32) = (2 : Int32) := (by decide)
      refine w_icmp_ne X hx (hb hby at_124) (pf := 127) (pt := 134) rfl (by decide) (by decide) (fun hc => absurd hf124 hc) (fun hc124 => ?_)
      refine w_iload X hx (hb hby at_127) (pc' := 129) rfl rfl ?_
      refine w_istore (Ls' := #[.val (.int x0), .val (.int x1), .val (.long x2), .second, .val (.long x3), .second, .val (.int x4), .val (.int (2 : Int32)), .val (.int v1), .val (.int qa), .val (.int qb), .val (.int qc), .val (.int qd), .val (.int qe), .val (.int qa), .val (.int r1), .val (.int en1), .val (.int r2), .val (.int en2), .val (.int en1), .unset, .unset, .unset, .unset, .unset, .unset, .unset, .unset, .unset, .unset, .unset, .unset, .unset]) X hx (hb hby at_129) (pc' := 131) rfl rfl ?_
      refine w_goto X hx (hb hby at_131) (pc' := 144) (by decide) (by decide) ?_
      refine w_iload X hx (hb hby at_144) (pc' := 146) rfl rfl ?_
      refine w_ldc X hx hZ hown (hw _ (List.mem_of_getElem? (i := 1) rfl)) (hb hby at_146) (pc' := 148) rfl ?_
      refine w_iand X hx (hb hby at_148) (pc' := 149) rfl ?_
      refine w_ldc X hx hZ hown (hw _ (List.mem_of_getElem? (i := 2) rfl)) (hb hby at_149) (pc' := 151) rfl ?_
      refine w_iload X hx (hb hby at_151) (pc' := 153) rfl rfl ?_
      refine w_isub X hx (hb hby at_153) (pc' := 154) rfl ?_
      refine w_irem X hx (hb hby at_154) (pc' := 155) rfl (by first | decide | exact own_d1 (own_e0 hqa).1 (own_e0 hqa).2 | exact own_d1 (own_dd2 hqa hqb hqc hr1 hen1).1 (own_dd2 hqa hqb hqc hr1 hen1).2 | exact own_d1 (own_dd3 hqa hqb hqc hqd hqe hr1 hen1 hr2 hen2).1 (own_dd3 hqa hqb hqc hqd hqe hr1 hen1 hr2 hen2).2) ?_
      refine w_istore (Ls' := #[.val (.int x0), .val (.int x1), .val (.long x2), .second, .val (.long x3), .second, .val (.int x4), .val (.int (2 : Int32)), .val (.int v1), .val (.int qa), .val (.int qb), .val (.int qc), .val (.int qd), .val (.int qe), .val (.int qa), .val (.int r1), .val (.int en1), .val (.int r2), .val (.int en2), .val (.int en1), .val (.int ((x4 &&& (2147483647 : Int32)) % ((1114112 : Int32) - en1))), .unset, .unset, .unset, .unset, .unset, .unset, .unset, .unset, .unset, .unset, .unset, .unset]) X hx (hb hby at_155) (pc' := 157) rfl rfl ?_
      obtain ⟨bs, hbs⟩ : ∃ z : Int32, z = ((x4 &&& (2147483647 : Int32)) % ((1114112 : Int32) - en1)) := ⟨_, rfl⟩
      rw [← hbs]
      refine w_iload X hx (hb hby at_157) (pc' := 159) rfl rfl ?_
      refine w_istore (Ls' := #[.val (.int x0), .val (.int x1), .val (.long x2), .second, .val (.long x3), .second, .val (.int x4), .val (.int (2 : Int32)), .val (.int v1), .val (.int qa), .val (.int qb), .val (.int qc), .val (.int qd), .val (.int qe), .val (.int qa), .val (.int r1), .val (.int en1), .val (.int r2), .val (.int en2), .val (.int en1), .val (.int bs), .val (.int bs), .unset, .unset, .unset, .unset, .unset, .unset, .unset, .unset, .unset, .unset, .unset]) X hx (hb hby at_159) (pc' := 161) rfl rfl ?_
      refine w_iload X hx (hb hby at_161) (pc' := 163) rfl rfl ?_
      refine w_iload X hx (hb hby at_163) (pc' := 165) rfl rfl ?_
      refine w_iadd X hx (hb hby at_165) (pc' := 166) rfl ?_
      refine w_istore (Ls' := #[.val (.int x0), .val (.int x1), .val (.long x2), .second, .val (.long x3), .second, .val (.int x4), .val (.int (2 : Int32)), .val (.int v1), .val (.int qa), .val (.int qb), .val (.int qc), .val (.int qd), .val (.int qe), .val (.int qa), .val (.int r1), .val (.int en1), .val (.int r2), .val (.int en2), .val (.int en1), .val (.int bs), .val (.int bs), .val (.int (bs + qa)), .unset, .unset, .unset, .unset, .unset, .unset, .unset, .unset, .unset, .unset]) X hx (hb hby at_166) (pc' := 168) rfl rfl ?_
      obtain ⟨pb0, hpb0⟩ : ∃ z : Int32, z = (bs + qa) := ⟨_, rfl⟩
      rw [← hpb0]
      refine w_iload X hx (hb hby at_168) (pc' := 170) rfl rfl ?_
      refine w_iload X hx (hb hby at_170) (pc' := 172) rfl rfl ?_
      refine w_iadd X hx (hb hby at_172) (pc' := 173) rfl ?_
      refine w_istore (Ls' := #[.val (.int x0), .val (.int x1), .val (.long x2), .second, .val (.long x3), .second, .val (.int x4), .val (.int (2 : Int32)), .val (.int v1), .val (.int qa), .val (.int qb), .val (.int qc), .val (.int qd), .val (.int qe), .val (.int qa), .val (.int r1), .val (.int en1), .val (.int r2), .val (.int en2), .val (.int en1), .val (.int bs), .val (.int bs), .val (.int pb0), .val (.int (bs + r1)), .unset, .unset, .unset, .unset, .unset, .unset, .unset, .unset, .unset]) X hx (hb hby at_173) (pc' := 175) rfl rfl ?_
      obtain ⟨pa1, hpa1⟩ : ∃ z : Int32, z = (bs + r1) := ⟨_, rfl⟩
      rw [← hpa1]
      refine w_iload X hx (hb hby at_175) (pc' := 177) rfl rfl ?_
      refine w_iload X hx (hb hby at_177) (pc' := 179) rfl rfl ?_
      refine w_iadd X hx (hb hby at_179) (pc' := 180) rfl ?_
      refine w_istore (Ls' := #[.val (.int x0), .val (.int x1), .val (.long x2), .second, .val (.long x3), .second, .val (.int x4), .val (.int (2 : Int32)), .val (.int v1), .val (.int qa), .val (.int qb), .val (.int qc), .val (.int qd), .val (.int qe), .val (.int qa), .val (.int r1), .val (.int en1), .val (.int r2), .val (.int en2), .val (.int en1), .val (.int bs), .val (.int bs), .val (.int pb0), .val (.int pa1), .val (.int (bs + en1)), .unset, .unset, .unset, .unset, .unset, .unset, .unset, .unset]) X hx (hb hby at_180) (pc' := 182) rfl rfl ?_
      obtain ⟨pb1, hpb1⟩ : ∃ z : Int32, z = (bs + en1) := ⟨_, rfl⟩
      rw [← hpb1]
      refine w_iload X hx (hb hby at_182) (pc' := 184) rfl rfl ?_
      refine w_iload X hx (hb hby at_184) (pc' := 186) rfl rfl ?_
      refine w_iadd X hx (hb hby at_186) (pc' := 187) rfl ?_
      refine w_istore (Ls' := #[.val (.int x0), .val (.int x1), .val (.long x2), .second, .val (.long x3), .second, .val (.int x4), .val (.int (2 : Int32)), .val (.int v1), .val (.int qa), .val (.int qb), .val (.int qc), .val (.int qd), .val (.int qe), .val (.int qa), .val (.int r1), .val (.int en1), .val (.int r2), .val (.int en2), .val (.int en1), .val (.int bs), .val (.int bs), .val (.int pb0), .val (.int pa1), .val (.int pb1), .val (.int (bs + r2)), .unset, .unset, .unset, .unset, .unset, .unset, .unset]) X hx (hb hby at_187) (pc' := 189) rfl rfl ?_
      obtain ⟨pa2, hpa2⟩ : ∃ z : Int32, z = (bs + r2) := ⟨_, rfl⟩
      rw [← hpa2]
      refine w_iload X hx (hb hby at_189) (pc' := 191) rfl rfl ?_
      refine w_iload X hx (hb hby at_191) (pc' := 193) rfl rfl ?_
      refine w_iadd X hx (hb hby at_193) (pc' := 194) rfl ?_
      refine w_istore (Ls' := #[.val (.int x0), .val (.int x1), .val (.long x2), .second, .val (.long x3), .second, .val (.int x4), .val (.int (2 : Int32)), .val (.int v1), .val (.int qa), .val (.int qb), .val (.int qc), .val (.int qd), .val (.int qe), .val (.int qa), .val (.int r1), .val (.int en1), .val (.int r2), .val (.int en2), .val (.int en1), .val (.int bs), .val (.int bs), .val (.int pb0), .val (.int pa1), .val (.int pb1), .val (.int pa2), .val (.int (bs + en2)), .unset, .unset, .unset, .unset, .unset, .unset]) X hx (hb hby at_194) (pc' := 196) rfl rfl ?_
      obtain ⟨pb2, hpb2⟩ : ∃ z : Int32, z = (bs + en2) := ⟨_, rfl⟩
      rw [← hpb2]
      refine w_iload X hx (hb hby at_196) (pc' := 198) rfl rfl ?_
      have hf198 : ¬ ((2 : Int32) = (0 : Int32)) := (by decide)
      refine w_if_ne X hx (hb hby at_198) (pf := 201) (pt := 209) rfl (by decide) (by decide) (fun hc198 => ?_) (fun hc => absurd hc hf198)
      refine w_iload X hx (hb hby at_209) (pc' := 211) rfl rfl ?_
      refine w_iconst (v := 1) X hx (hb hby at_211) (pc' := 212) rfl rfl ?_
      have hf212 : ¬ ((2 : Int32) = (1 : Int32)) := (by decide)
      refine w_icmp_ne X hx (hb hby at_212) (pf := 215) (pt := 233) rfl (by decide) (by decide) (fun hc212 => ?_) (fun hc => absurd hc hf212)
      refine w_iload X hx (hb hby at_233) (pc' := 235) rfl rfl ?_
      refine w_iconst (v := 2) X hx (hb hby at_235) (pc' := 236) rfl rfl ?_
      have hf236 : (2 : Int32) = (2 : Int32) := (by decide)
      refine w_icmp_ne X hx (hb hby at_236) (pf := 239) (pt := 267) rfl (by decide) (by decide) (fun hc => absurd hf236 hc) (fun hc236 => ?_)
      refine w_iconst (v := 4) X hx (hb hby at_239) (pc' := 240) rfl rfl ?_
      refine w_newI X hx hZ (cap := 4) e0 (hw _ (List.mem_of_getElem? (i := 3) rfl)) (by decide) (by decide) (by decide) (by decide) (by decide) (hb hby at_240) (pc' := 242) rfl (fun T16 h16 b16 X16 e16 E16 q16 V16 => ?_)
      have g_b16 : n0 ≤ b16 := by rw [q16]; exact Z0
      have V16 : AI Z h16 b16 .int [(0 : Int32), (0 : Int32), (0 : Int32), (0 : Int32)] := V16
      have zn16 : n0 ≤ h16.size := Nat.le_trans Z0 E16.1
      refine w_dup X16 hx (hb hby at_242) (pc' := 243) rfl rfl ?_
      refine w_iconst (v := 0) X16 hx (hb hby at_243) (pc' := 244) rfl rfl ?_
      refine w_iload X16 hx (hb hby at_244) (pc' := 246) rfl rfl ?_
      refine w_iastore X16 hx hZ e16 V16 (by decide) (by show _ < 4; decide) (hb hby at_246) (pc' := 247) rfl (fun T17 h17 X17 e17 W17 V17 => ?_)
      have V17 : AI Z h17 b16 .int [bs, (0 : Int32), (0 : Int32), (0 : Int32)] := V17
      have N17 := Fr.snoc X17 N0 g_b16
      have zn17 : n0 ≤ h17.size := by rw [W17.size]; exact zn16
      refine w_dup X17 hx (hb hby at_247) (pc' := 248) rfl rfl ?_
      refine w_iconst (v := 1) X17 hx (hb hby at_248) (pc' := 249) rfl rfl ?_
      refine w_iload X17 hx (hb hby at_249) (pc' := 251) rfl rfl ?_
      refine w_iastore X17 hx hZ e17 V17 (by decide) (by show _ < 4; decide) (hb hby at_251) (pc' := 252) rfl (fun T18 h18 X18 e18 W18 V18 => ?_)
      have V18 : AI Z h18 b16 .int [bs, pb0, (0 : Int32), (0 : Int32)] := V18
      have N18 := Fr.snoc X18 N17 g_b16
      have zn18 : n0 ≤ h18.size := by rw [W18.size]; exact zn17
      refine w_dup X18 hx (hb hby at_252) (pc' := 253) rfl rfl ?_
      refine w_iconst (v := 2) X18 hx (hb hby at_253) (pc' := 254) rfl rfl ?_
      refine w_iload X18 hx (hb hby at_254) (pc' := 256) rfl rfl ?_
      refine w_iastore X18 hx hZ e18 V18 (by decide) (by show _ < 4; decide) (hb hby at_256) (pc' := 257) rfl (fun T19 h19 X19 e19 W19 V19 => ?_)
      have V19 : AI Z h19 b16 .int [bs, pb0, pa1, (0 : Int32)] := V19
      have N19 := Fr.snoc X19 N18 g_b16
      have zn19 : n0 ≤ h19.size := by rw [W19.size]; exact zn18
      refine w_dup X19 hx (hb hby at_257) (pc' := 258) rfl rfl ?_
      refine w_iconst (v := 3) X19 hx (hb hby at_258) (pc' := 259) rfl rfl ?_
      refine w_iload X19 hx (hb hby at_259) (pc' := 261) rfl rfl ?_
      refine w_iastore X19 hx hZ e19 V19 (by decide) (by show _ < 4; decide) (hb hby at_261) (pc' := 262) rfl (fun T20 h20 X20 e20 W20 V20 => ?_)
      have V20 : AI Z h20 b16 .int [bs, pb0, pa1, pb1] := V20
      have N20 := Fr.snoc X20 N19 g_b16
      have zn20 : n0 ≤ h20.size := by rw [W20.size]; exact zn19
      refine w_astore (Ls' := #[.val (.int x0), .val (.int x1), .val (.long x2), .second, .val (.long x3), .second, .val (.int x4), .val (.int (2 : Int32)), .val (.int v1), .val (.int qa), .val (.int qb), .val (.int qc), .val (.int qd), .val (.int qe), .val (.int qa), .val (.int r1), .val (.int en1), .val (.int r2), .val (.int en2), .val (.int en1), .val (.int bs), .val (.int bs), .val (.int pb0), .val (.int pa1), .val (.int pb1), .val (.int pa2), .val (.int pb2), .val (.ref b16), .unset, .unset, .unset, .unset, .unset]) X20 hx (hb hby at_262) (pc' := 264) rfl rfl rfl ?_
      refine w_goto X20 hx (hb hby at_264) (pc' := 303) (by decide) (by decide) ?_
      refine w_iloadN X20 hx (hb hby at_303) (pc' := 304) rfl rfl ?_
      refine w_istore (Ls' := #[.val (.int x0), .val (.int x1), .val (.long x2), .second, .val (.long x3), .second, .val (.int x4), .val (.int (2 : Int32)), .val (.int v1), .val (.int qa), .val (.int qb), .val (.int qc), .val (.int qd), .val (.int qe), .val (.int qa), .val (.int r1), .val (.int en1), .val (.int r2), .val (.int en2), .val (.int en1), .val (.int bs), .val (.int bs), .val (.int pb0), .val (.int pa1), .val (.int pb1), .val (.int pa2), .val (.int pb2), .val (.ref b16), .val (.int x1), .unset, .unset, .unset, .unset]) X20 hx (hb hby at_304) (pc' := 306) rfl rfl ?_
      refine w_iload X20 hx (hb hby at_306) (pc' := 308) rfl rfl ?_
      have J332_22 : ∀ (v21 : Int32), v21 = (if v1 = (0 : Int32) then x1 else ((bs - (1 : Int32)) + ((x1 &&& (2147483647 : Int32)) % (en1 + (3 : Int32))))) → Go p e below s room_1.cells room_1.slots (QL (some (.int 1)) n0) T20 (mkF m 332 #[.val (.int x0), .val (.int x1), .val (.long x2), .second, .val (.long x3), .second, .val (.int x4), .val (.int (2 : Int32)), .val (.int v1), .val (.int qa), .val (.int qb), .val (.int qc), .val (.int qd), .val (.int qe), .val (.int qa), .val (.int r1), .val (.int en1), .val (.int r2), .val (.int en2), .val (.int en1), .val (.int bs), .val (.int bs), .val (.int pb0), .val (.int pa1), .val (.int pb1), .val (.int pa2), .val (.int pb2), .val (.ref b16), .val (.int v21), .unset, .unset, .unset, .unset] []) := by
        intro v21 hv21
        refine w_iload X20 hx (hb hby at_332) (pc' := 334) rfl rfl ?_
        refine w_iconst (v := 1) X20 hx (hb hby at_334) (pc' := 335) rfl rfl ?_
        have hf335 : ¬ ((2 : Int32) < (1 : Int32)) := (by decide)
        refine w_icmp_lt X20 hx (hb hby at_335) (pf := 338) (pt := 356) rfl (by decide) (by decide) (fun hc => absurd hc hf335) (fun hc335 => ?_)
        refine w_iload X20 hx (hb hby at_338) (pc' := 340) rfl rfl ?_
        refine w_iload X20 hx (hb hby at_340) (pc' := 342) rfl rfl ?_
        have J357_24 : ∀ (v23 : Int32), v23 = (if v21 < bs then (0 : Int32) else (if pb0 < v21 then (0 : Int32) else (1 : Int32))) → Go p e below s room_1.cells room_1.slots (QL (some (.int 1)) n0) T20 (mkF m 357 #[.val (.int x0), .val (.int x1), .val (.long x2), .second, .val (.long x3), .second, .val (.int x4), .val (.int (2 : Int32)), .val (.int v1), .val (.int qa), .val (.int qb), .val (.int qc), .val (.int qd), .val (.int qe), .val (.int qa), .val (.int r1), .val (.int en1), .val (.int r2), .val (.int en2), .val (.int en1), .val (.int bs), .val (.int bs), .val (.int pb0), .val (.int pa1), .val (.int pb1), .val (.int pa2), .val (.int pb2), .val (.ref b16), .val (.int v21), .unset, .unset, .unset, .unset] [(.int v23)]) := by
          intro v23 hv23
          refine w_istore (Ls' := #[.val (.int x0), .val (.int x1), .val (.long x2), .second, .val (.long x3), .second, .val (.int x4), .val (.int (2 : Int32)), .val (.int v1), .val (.int qa), .val (.int qb), .val (.int qc), .val (.int qd), .val (.int qe), .val (.int qa), .val (.int r1), .val (.int en1), .val (.int r2), .val (.int en2), .val (.int en1), .val (.int bs), .val (.int bs), .val (.int pb0), .val (.int pa1), .val (.int pb1), .val (.int pa2), .val (.int pb2), .val (.ref b16), .val (.int v21), .val (.int v23), .unset, .unset, .unset]) X20 hx (hb hby at_357) (pc' := 359) rfl rfl ?_
          refine w_iload X20 hx (hb hby at_359) (pc' := 361) rfl rfl ?_
          refine w_iconst (v := 2) X20 hx (hb hby at_361) (pc' := 362) rfl rfl ?_
          have hf362 : ¬ ((2 : Int32) < (2 : Int32)) := (by decide)
          refine w_icmp_lt X20 hx (hb hby at_362) (pf := 365) (pt := 383) rfl (by decide) (by decide) (fun hc => absurd hc hf362) (fun hc362 => ?_)
          refine w_iload X20 hx (hb hby at_365) (pc' := 367) rfl rfl ?_
          refine w_iload X20 hx (hb hby at_367) (pc' := 369) rfl rfl ?_
          have J384_26 : ∀ (v25 : Int32), v25 = (if v21 < pa1 then (0 : Int32) else (if pb1 < v21 then (0 : Int32) else (1 : Int32))) → Go p e below s room_1.cells room_1.slots (QL (some (.int 1)) n0) T20 (mkF m 384 #[.val (.int x0), .val (.int x1), .val (.long x2), .second, .val (.long x3), .second, .val (.int x4), .val (.int (2 : Int32)), .val (.int v1), .val (.int qa), .val (.int qb), .val (.int qc), .val (.int qd), .val (.int qe), .val (.int qa), .val (.int r1), .val (.int en1), .val (.int r2), .val (.int en2), .val (.int en1), .val (.int bs), .val (.int bs), .val (.int pb0), .val (.int pa1), .val (.int pb1), .val (.int pa2), .val (.int pb2), .val (.ref b16), .val (.int v21), .val (.int v23), .unset, .unset, .unset] [(.int v25)]) := by
            intro v25 hv25
            refine w_istore (Ls' := #[.val (.int x0), .val (.int x1), .val (.long x2), .second, .val (.long x3), .second, .val (.int x4), .val (.int (2 : Int32)), .val (.int v1), .val (.int qa), .val (.int qb), .val (.int qc), .val (.int qd), .val (.int qe), .val (.int qa), .val (.int r1), .val (.int en1), .val (.int r2), .val (.int en2), .val (.int en1), .val (.int bs), .val (.int bs), .val (.int pb0), .val (.int pa1), .val (.int pb1), .val (.int pa2), .val (.int pb2), .val (.ref b16), .val (.int v21), .val (.int v23), .val (.int v25), .unset, .unset]) X20 hx (hb hby at_384) (pc' := 386) rfl rfl ?_
            refine w_iload X20 hx (hb hby at_386) (pc' := 388) rfl rfl ?_
            refine w_iconst (v := 3) X20 hx (hb hby at_388) (pc' := 389) rfl rfl ?_
            have hf389 : (2 : Int32) < (3 : Int32) := (by decide)
            refine w_icmp_lt X20 hx (hb hby at_389) (pf := 392) (pt := 410) rfl (by decide) (by decide) (fun hc389 => ?_) (fun hc => absurd hf389 hc)
            refine w_iconst (v := 0) X20 hx (hb hby at_410) (pc' := 411) rfl rfl ?_
            refine w_istore (Ls' := #[.val (.int x0), .val (.int x1), .val (.long x2), .second, .val (.long x3), .second, .val (.int x4), .val (.int (2 : Int32)), .val (.int v1), .val (.int qa), .val (.int qb), .val (.int qc), .val (.int qd), .val (.int qe), .val (.int qa), .val (.int r1), .val (.int en1), .val (.int r2), .val (.int en2), .val (.int en1), .val (.int bs), .val (.int bs), .val (.int pb0), .val (.int pa1), .val (.int pb1), .val (.int pa2), .val (.int pb2), .val (.ref b16), .val (.int v21), .val (.int v23), .val (.int v25), .val (.int (0 : Int32)), .unset]) X20 hx (hb hby at_411) (pc' := 413) rfl rfl ?_
            refine w_iload X20 hx (hb hby at_413) (pc' := 415) rfl rfl ?_
            have J433_28 : ∀ (v27 : Int32), v27 = (if v23 = (0 : Int32) then (if v25 = (0 : Int32) then (0 : Int32) else (1 : Int32)) else (1 : Int32)) → Go p e below s room_1.cells room_1.slots (QL (some (.int 1)) n0) T20 (mkF m 433 #[.val (.int x0), .val (.int x1), .val (.long x2), .second, .val (.long x3), .second, .val (.int x4), .val (.int (2 : Int32)), .val (.int v1), .val (.int qa), .val (.int qb), .val (.int qc), .val (.int qd), .val (.int qe), .val (.int qa), .val (.int r1), .val (.int en1), .val (.int r2), .val (.int en2), .val (.int en1), .val (.int bs), .val (.int bs), .val (.int pb0), .val (.int pa1), .val (.int pb1), .val (.int pa2), .val (.int pb2), .val (.ref b16), .val (.int v21), .val (.int v23), .val (.int v25), .val (.int (0 : Int32)), .unset] [(.int v27)]) := by
              intro v27 hv27
              refine w_istore (Ls' := #[.val (.int x0), .val (.int x1), .val (.long x2), .second, .val (.long x3), .second, .val (.int x4), .val (.int (2 : Int32)), .val (.int v1), .val (.int qa), .val (.int qb), .val (.int qc), .val (.int qd), .val (.int qe), .val (.int qa), .val (.int r1), .val (.int en1), .val (.int r2), .val (.int en2), .val (.int en1), .val (.int bs), .val (.int bs), .val (.int pb0), .val (.int pa1), .val (.int pb1), .val (.int pa2), .val (.int pb2), .val (.ref b16), .val (.int v21), .val (.int v23), .val (.int v25), .val (.int (0 : Int32)), .val (.int v27)]) X20 hx (hb hby at_433) (pc' := 435) rfl rfl ?_
              refine w_aload X20 hx (hb hby at_435) (pc' := 437) rfl rfl rfl ?_
              refine w_iload X20 hx (hb hby at_437) (pc' := 439) rfl rfl ?_
              refine w_callS (argsL := [(.ref b16), (.int v21)]) (rest := []) X20 hx hZ hown e20 (rm1_n4 l Z a0 hw b16 v21 h20 n0 bs pb0 pa1 pb1 V20) (hw _ (List.mem_of_getElem? (i := 4) rfl)) (hw _ (List.mem_of_getElem? (i := 5) rfl)) (hw _ (List.mem_of_getElem? (i := 6) rfl)) (hw _ (List.mem_of_getElem? (i := 7) rfl)) (by decide) (by decide) (W := 0) (by decide) (by decide) (by decide) (by rw [hml]; rfl) (lenOf pd_0 rfl) (Nat.le_refl _) rfl (hb hby at_439) (pc' := 442) rfl (fun T29 L29 v29 X29 hQ29 => ?_)
              obtain ⟨rfl, N29q, e29⟩ := hQ29
              have N29 := Fr.app N20 N29q
              have X29 : Stand p l e room_1 s m _ below meth c T29 _ 1 4 := X29
              show Go p e below s room_1.cells room_1.slots (QL (some (.int 1)) n0) T29 (mkF m 442 #[.val (.int x0), .val (.int x1), .val (.long x2), .second, .val (.long x3), .second, .val (.int x4), .val (.int (2 : Int32)), .val (.int v1), .val (.int qa), .val (.int qb), .val (.int qc), .val (.int qd), .val (.int qe), .val (.int qa), .val (.int r1), .val (.int en1), .val (.int r2), .val (.int en2), .val (.int en1), .val (.int bs), .val (.int bs), .val (.int pb0), .val (.int pa1), .val (.int pb1), .val (.int pa2), .val (.int pb2), .val (.ref b16), .val (.int v21), .val (.int v23), .val (.int v25), .val (.int (0 : Int32)), .val (.int v27)] [(.int (K1_n4 bs pb0 pa1 pb1 v21))])
              refine w_iload X29 hx (hb hby at_442) (pc' := 444) rfl rfl ?_
              have hf444 : (K1_n4 bs pb0 pa1 pb1 v21) = v27 := own_k2 hqa hqb hqc hqd hqe hr1 hen1 hr2 hen2 hbs hpb0 hpa1 hpb1 hv23 hv25 hv27
              refine w_icmp_ne X29 hx (hb hby at_444) (pf := 447) (pt := 451) rfl (by decide) (by decide) (fun hc => absurd hf444 hc) (fun hc444 => ?_)
              refine w_iconst (v := 1) X29 hx (hb hby at_447) (pc' := 448) rfl rfl ?_
              refine w_goto X29 hx (hb hby at_448) (pc' := 452) (by decide) (by decide) ?_
              exact w_retZ X29 hx hret hlk (hb hby at_452) (by decide) (by decide) ⟨rfl, N29⟩
            refine w_if_ne X20 hx (hb hby at_415) (pf := 418) (pt := 428) rfl (by decide) (by decide) (fun hc415 => ?_) (fun hc415 => ?_)
            · refine w_iconst (v := 1) X20 hx (hb hby at_428) (pc' := 429) rfl rfl ?_
              refine w_goto X20 hx (hb hby at_429) (pc' := 433) (by decide) (by decide) ?_
              exact J433_28 ((1 : Int32)) (by rw [if_neg (show ¬ (v23 = (0 : Int32)) from (by assumption))])
            · refine w_iload X20 hx (hb hby at_418) (pc' := 420) rfl rfl ?_
              refine w_if_ne X20 hx (hb hby at_420) (pf := 423) (pt := 428) rfl (by decide) (by decide) (fun hc420 => ?_) (fun hc420 => ?_)
              · refine w_iconst (v := 1) X20 hx (hb hby at_428) (pc' := 429) rfl rfl ?_
                refine w_goto X20 hx (hb hby at_429) (pc' := 433) (by decide) (by decide) ?_
                exact J433_28 ((1 : Int32)) (by rw [if_pos (show v23 = (0 : Int32) from (by assumption)), if_neg (show ¬ (v25 = (0 : Int32)) from (by assumption))])
              · refine w_iload X20 hx (hb hby at_423) (pc' := 425) rfl rfl ?_
                have hf425 : (0 : Int32) = (0 : Int32) := (by decide)
                refine w_if_eq X20 hx (hb hby at_425) (pf := 428) (pt := 432) rfl (by decide) (by decide) (fun hc425 => ?_) (fun hc => absurd hf425 hc)
                refine w_iconst (v := 0) X20 hx (hb hby at_432) (pc' := 433) rfl rfl ?_
                exact J433_28 ((0 : Int32)) (by rw [if_pos (show v23 = (0 : Int32) from (by assumption)), if_pos (show v25 = (0 : Int32) from (by assumption))])
          refine w_icmp_gt X20 hx (hb hby at_369) (pf := 372) (pt := 383) rfl (by decide) (by decide) (fun hc369 => ?_) (fun hc369 => ?_)
          · refine w_iconst (v := 0) X20 hx (hb hby at_383) (pc' := 384) rfl rfl ?_
            exact J384_26 ((0 : Int32)) (by rw [if_pos (show v21 < pa1 from (by assumption))])
          · refine w_iload X20 hx (hb hby at_372) (pc' := 374) rfl rfl ?_
            refine w_iload X20 hx (hb hby at_374) (pc' := 376) rfl rfl ?_
            refine w_icmp_gt X20 hx (hb hby at_376) (pf := 379) (pt := 383) rfl (by decide) (by decide) (fun hc376 => ?_) (fun hc376 => ?_)
            · refine w_iconst (v := 0) X20 hx (hb hby at_383) (pc' := 384) rfl rfl ?_
              exact J384_26 ((0 : Int32)) (by rw [if_neg (show ¬ (v21 < pa1) from (by assumption)), if_pos (show pb1 < v21 from (by assumption))])
            · refine w_iconst (v := 1) X20 hx (hb hby at_379) (pc' := 380) rfl rfl ?_
              refine w_goto X20 hx (hb hby at_380) (pc' := 384) (by decide) (by decide) ?_
              exact J384_26 ((1 : Int32)) (by rw [if_neg (show ¬ (v21 < pa1) from (by assumption)), if_neg (show ¬ (pb1 < v21) from (by assumption))])
        refine w_icmp_gt X20 hx (hb hby at_342) (pf := 345) (pt := 356) rfl (by decide) (by decide) (fun hc342 => ?_) (fun hc342 => ?_)
        · refine w_iconst (v := 0) X20 hx (hb hby at_356) (pc' := 357) rfl rfl ?_
          exact J357_24 ((0 : Int32)) (by rw [if_pos (show v21 < bs from (by assumption))])
        · refine w_iload X20 hx (hb hby at_345) (pc' := 347) rfl rfl ?_
          refine w_iload X20 hx (hb hby at_347) (pc' := 349) rfl rfl ?_
          refine w_icmp_gt X20 hx (hb hby at_349) (pf := 352) (pt := 356) rfl (by decide) (by decide) (fun hc349 => ?_) (fun hc349 => ?_)
          · refine w_iconst (v := 0) X20 hx (hb hby at_356) (pc' := 357) rfl rfl ?_
            exact J357_24 ((0 : Int32)) (by rw [if_neg (show ¬ (v21 < bs) from (by assumption)), if_pos (show pb0 < v21 from (by assumption))])
          · refine w_iconst (v := 1) X20 hx (hb hby at_352) (pc' := 353) rfl rfl ?_
            refine w_goto X20 hx (hb hby at_353) (pc' := 357) (by decide) (by decide) ?_
            exact J357_24 ((1 : Int32)) (by rw [if_neg (show ¬ (v21 < bs) from (by assumption)), if_neg (show ¬ (pb0 < v21) from (by assumption))])
      refine w_if_eq X20 hx (hb hby at_308) (pf := 311) (pt := 332) rfl (by decide) (by decide) (fun hc308 => ?_) (fun hc308 => ?_)
      · exact J332_22 (x1) (by rw [if_pos (show v1 = (0 : Int32) from (by assumption))])
      · refine w_iload X20 hx (hb hby at_311) (pc' := 313) rfl rfl ?_
        have hf313 : (0 : Int32) < (2 : Int32) := (by decide)
        refine w_if_le X20 hx (hb hby at_313) (pf := 316) (pt := 332) rfl (by decide) (by decide) (fun hc => absurd hf313 hc) (fun hc313 => ?_)
        refine w_iload X20 hx (hb hby at_316) (pc' := 318) rfl rfl ?_
        refine w_iconst (v := 1) X20 hx (hb hby at_318) (pc' := 319) rfl rfl ?_
        refine w_isub X20 hx (hb hby at_319) (pc' := 320) rfl ?_
        refine w_iloadN X20 hx (hb hby at_320) (pc' := 321) rfl rfl ?_
        refine w_ldc X20 hx hZ hown (hw _ (List.mem_of_getElem? (i := 1) rfl)) (hb hby at_321) (pc' := 323) rfl ?_
        refine w_iand X20 hx (hb hby at_323) (pc' := 324) rfl ?_
        refine w_iload X20 hx (hb hby at_324) (pc' := 326) rfl rfl ?_
        refine w_iconst (v := 3) X20 hx (hb hby at_326) (pc' := 327) rfl rfl ?_
        refine w_iadd X20 hx (hb hby at_327) (pc' := 328) rfl ?_
        refine w_irem X20 hx (hb hby at_328) (pc' := 329) rfl (by first | decide | exact own_d2 (own_e0 hqa).1 (own_e0 hqa).2 | exact own_d2 (own_dd2 hqa hqb hqc hr1 hen1).1 (own_dd2 hqa hqb hqc hr1 hen1).2 | exact own_d2 (own_dd3 hqa hqb hqc hqd hqe hr1 hen1 hr2 hen2).1 (own_dd3 hqa hqb hqc hqd hqe hr1 hen1 hr2 hen2).2) ?_
        refine w_iadd X20 hx (hb hby at_329) (pc' := 330) rfl ?_
        refine w_istore (Ls' := #[.val (.int x0), .val (.int x1), .val (.long x2), .second, .val (.long x3), .second, .val (.int x4), .val (.int (2 : Int32)), .val (.int v1), .val (.int qa), .val (.int qb), .val (.int qc), .val (.int qd), .val (.int qe), .val (.int qa), .val (.int r1), .val (.int en1), .val (.int r2), .val (.int en2), .val (.int en1), .val (.int bs), .val (.int bs), .val (.int pb0), .val (.int pa1), .val (.int pb1), .val (.int pa2), .val (.int pb2), .val (.ref b16), .val (.int ((bs - (1 : Int32)) + ((x1 &&& (2147483647 : Int32)) % (en1 + (3 : Int32))))), .unset, .unset, .unset, .unset]) X20 hx (hb hby at_330) (pc' := 332) rfl rfl ?_
        exact J332_22 (((bs - (1 : Int32)) + ((x1 &&& (2147483647 : Int32)) % (en1 + (3 : Int32))))) (by rw [if_neg (show ¬ (v1 = (0 : Int32)) from (by assumption))])
    · refine w_iconst (v := 0) X hx (hb hby at_105) (pc' := 106) rfl rfl ?_
      refine w_istore (Ls' := #[.val (.int x0), .val (.int x1), .val (.long x2), .second, .val (.long x3), .second, .val (.int x4), .val (.int (3 : Int32)), .val (.int v1), .val (.int qa), .val (.int qb), .val (.int qc), .val (.int qd), .val (.int qe), .val (.int qa), .val (.int r1), .val (.int en1), .val (.int r2), .val (.int en2), .val (.int (0 : Int32)), .unset, .unset, .unset, .unset, .unset, .unset, .unset, .unset, .unset, .unset, .unset, .unset, .unset]) X hx (hb hby at_106) (pc' := 108) rfl rfl ?_
      refine w_iload X hx (hb hby at_108) (pc' := 110) rfl rfl ?_
      refine w_iconst (v := 1) X hx (hb hby at_110) (pc' := 111) rfl rfl ?_
      have hf111 : ¬ ((3 : Int32) = (1 : Int32)) := (by decide)
      refine w_icmp_ne X hx (hb hby at_111) (pf := 114) (pt := 121) rfl (by decide) (by decide) (fun hc111 => ?_) (fun hc => absurd hc hf111)
      refine w_iload X hx (hb hby at_121) (pc' := 123) rfl rfl ?_
      refine w_iconst (v := 2) X hx (hb hby at_123) (pc' := 124) rfl rfl ?_
      have hf124 : ¬ ((3 : Int32) = (2 : Int32)) := (by decide)
      refine w_icmp_ne X hx (hb hby at_124) (pf := 127) (pt := 134) rfl (by decide) (by decide) (fun hc124 => ?_) (fun hc => absurd hc hf124)
      refine w_iload X hx (hb hby at_134) (pc' := 136) rfl rfl ?_
      refine w_iconst (v := 3) X hx (hb hby at_136) (pc' := 137) rfl rfl ?_
      have hf137 : (3 : Int32) = (3 : Int32) := (by decide)
      refine w_icmp_ne X hx (hb hby at_137) (pf := 140) (pt := 144) rfl (by decide) (by decide) (fun hc => absurd hf137 hc) (fun hc137 => ?_)
      refine w_iload X hx (hb hby at_140) (pc' := 142) rfl rfl ?_
      refine w_istore (Ls' := #[.val (.int x0), .val (.int x1), .val (.long x2), .second, .val (.long x3), .second, .val (.int x4), .val (.int (3 : Int32)), .val (.int v1), .val (.int qa), .val (.int qb), .val (.int qc), .val (.int qd), .val (.int qe), .val (.int qa), .val (.int r1), .val (.int en1), .val (.int r2), .val (.int en2), .val (.int en2), .unset, .unset, .unset, .unset, .unset, .unset, .unset, .unset, .unset, .unset, .unset, .unset, .unset]) X hx (hb hby at_142) (pc' := 144) rfl rfl ?_
      refine w_iload X hx (hb hby at_144) (pc' := 146) rfl rfl ?_
      refine w_ldc X hx hZ hown (hw _ (List.mem_of_getElem? (i := 1) rfl)) (hb hby at_146) (pc' := 148) rfl ?_
      refine w_iand X hx (hb hby at_148) (pc' := 149) rfl ?_
      refine w_ldc X hx hZ hown (hw _ (List.mem_of_getElem? (i := 2) rfl)) (hb hby at_149) (pc' := 151) rfl ?_
      refine w_iload X hx (hb hby at_151) (pc' := 153) rfl rfl ?_
      refine w_isub X hx (hb hby at_153) (pc' := 154) rfl ?_
      refine w_irem X hx (hb hby at_154) (pc' := 155) rfl (by first | decide | exact own_d1 (own_e0 hqa).1 (own_e0 hqa).2 | exact own_d1 (own_dd2 hqa hqb hqc hr1 hen1).1 (own_dd2 hqa hqb hqc hr1 hen1).2 | exact own_d1 (own_dd3 hqa hqb hqc hqd hqe hr1 hen1 hr2 hen2).1 (own_dd3 hqa hqb hqc hqd hqe hr1 hen1 hr2 hen2).2) ?_
      refine w_istore (Ls' := #[.val (.int x0), .val (.int x1), .val (.long x2), .second, .val (.long x3), .second, .val (.int x4), .val (.int (3 : Int32)), .val (.int v1), .val (.int qa), .val (.int qb), .val (.int qc), .val (.int qd), .val (.int qe), .val (.int qa), .val (.int r1), .val (.int en1), .val (.int r2), .val (.int en2), .val (.int en2), .val (.int ((x4 &&& (2147483647 : Int32)) % ((1114112 : Int32) - en2))), .unset, .unset, .unset, .unset, .unset, .unset, .unset, .unset, .unset, .unset, .unset, .unset]) X hx (hb hby at_155) (pc' := 157) rfl rfl ?_
      obtain ⟨bs, hbs⟩ : ∃ z : Int32, z = ((x4 &&& (2147483647 : Int32)) % ((1114112 : Int32) - en2)) := ⟨_, rfl⟩
      rw [← hbs]
      refine w_iload X hx (hb hby at_157) (pc' := 159) rfl rfl ?_
      refine w_istore (Ls' := #[.val (.int x0), .val (.int x1), .val (.long x2), .second, .val (.long x3), .second, .val (.int x4), .val (.int (3 : Int32)), .val (.int v1), .val (.int qa), .val (.int qb), .val (.int qc), .val (.int qd), .val (.int qe), .val (.int qa), .val (.int r1), .val (.int en1), .val (.int r2), .val (.int en2), .val (.int en2), .val (.int bs), .val (.int bs), .unset, .unset, .unset, .unset, .unset, .unset, .unset, .unset, .unset, .unset, .unset]) X hx (hb hby at_159) (pc' := 161) rfl rfl ?_
      refine w_iload X hx (hb hby at_161) (pc' := 163) rfl rfl ?_
      refine w_iload X hx (hb hby at_163) (pc' := 165) rfl rfl ?_
      refine w_iadd X hx (hb hby at_165) (pc' := 166) rfl ?_
      refine w_istore (Ls' := #[.val (.int x0), .val (.int x1), .val (.long x2), .second, .val (.long x3), .second, .val (.int x4), .val (.int (3 : Int32)), .val (.int v1), .val (.int qa), .val (.int qb), .val (.int qc), .val (.int qd), .val (.int qe), .val (.int qa), .val (.int r1), .val (.int en1), .val (.int r2), .val (.int en2), .val (.int en2), .val (.int bs), .val (.int bs), .val (.int (bs + qa)), .unset, .unset, .unset, .unset, .unset, .unset, .unset, .unset, .unset, .unset]) X hx (hb hby at_166) (pc' := 168) rfl rfl ?_
      obtain ⟨pb0, hpb0⟩ : ∃ z : Int32, z = (bs + qa) := ⟨_, rfl⟩
      rw [← hpb0]
      refine w_iload X hx (hb hby at_168) (pc' := 170) rfl rfl ?_
      refine w_iload X hx (hb hby at_170) (pc' := 172) rfl rfl ?_
      refine w_iadd X hx (hb hby at_172) (pc' := 173) rfl ?_
      refine w_istore (Ls' := #[.val (.int x0), .val (.int x1), .val (.long x2), .second, .val (.long x3), .second, .val (.int x4), .val (.int (3 : Int32)), .val (.int v1), .val (.int qa), .val (.int qb), .val (.int qc), .val (.int qd), .val (.int qe), .val (.int qa), .val (.int r1), .val (.int en1), .val (.int r2), .val (.int en2), .val (.int en2), .val (.int bs), .val (.int bs), .val (.int pb0), .val (.int (bs + r1)), .unset, .unset, .unset, .unset, .unset, .unset, .unset, .unset, .unset]) X hx (hb hby at_173) (pc' := 175) rfl rfl ?_
      obtain ⟨pa1, hpa1⟩ : ∃ z : Int32, z = (bs + r1) := ⟨_, rfl⟩
      rw [← hpa1]
      refine w_iload X hx (hb hby at_175) (pc' := 177) rfl rfl ?_
      refine w_iload X hx (hb hby at_177) (pc' := 179) rfl rfl ?_
      refine w_iadd X hx (hb hby at_179) (pc' := 180) rfl ?_
      refine w_istore (Ls' := #[.val (.int x0), .val (.int x1), .val (.long x2), .second, .val (.long x3), .second, .val (.int x4), .val (.int (3 : Int32)), .val (.int v1), .val (.int qa), .val (.int qb), .val (.int qc), .val (.int qd), .val (.int qe), .val (.int qa), .val (.int r1), .val (.int en1), .val (.int r2), .val (.int en2), .val (.int en2), .val (.int bs), .val (.int bs), .val (.int pb0), .val (.int pa1), .val (.int (bs + en1)), .unset, .unset, .unset, .unset, .unset, .unset, .unset, .unset]) X hx (hb hby at_180) (pc' := 182) rfl rfl ?_
      obtain ⟨pb1, hpb1⟩ : ∃ z : Int32, z = (bs + en1) := ⟨_, rfl⟩
      rw [← hpb1]
      refine w_iload X hx (hb hby at_182) (pc' := 184) rfl rfl ?_
      refine w_iload X hx (hb hby at_184) (pc' := 186) rfl rfl ?_
      refine w_iadd X hx (hb hby at_186) (pc' := 187) rfl ?_
      refine w_istore (Ls' := #[.val (.int x0), .val (.int x1), .val (.long x2), .second, .val (.long x3), .second, .val (.int x4), .val (.int (3 : Int32)), .val (.int v1), .val (.int qa), .val (.int qb), .val (.int qc), .val (.int qd), .val (.int qe), .val (.int qa), .val (.int r1), .val (.int en1), .val (.int r2), .val (.int en2), .val (.int en2), .val (.int bs), .val (.int bs), .val (.int pb0), .val (.int pa1), .val (.int pb1), .val (.int (bs + r2)), .unset, .unset, .unset, .unset, .unset, .unset, .unset]) X hx (hb hby at_187) (pc' := 189) rfl rfl ?_
      obtain ⟨pa2, hpa2⟩ : ∃ z : Int32, z = (bs + r2) := ⟨_, rfl⟩
      rw [← hpa2]
      refine w_iload X hx (hb hby at_189) (pc' := 191) rfl rfl ?_
      refine w_iload X hx (hb hby at_191) (pc' := 193) rfl rfl ?_
      refine w_iadd X hx (hb hby at_193) (pc' := 194) rfl ?_
      refine w_istore (Ls' := #[.val (.int x0), .val (.int x1), .val (.long x2), .second, .val (.long x3), .second, .val (.int x4), .val (.int (3 : Int32)), .val (.int v1), .val (.int qa), .val (.int qb), .val (.int qc), .val (.int qd), .val (.int qe), .val (.int qa), .val (.int r1), .val (.int en1), .val (.int r2), .val (.int en2), .val (.int en2), .val (.int bs), .val (.int bs), .val (.int pb0), .val (.int pa1), .val (.int pb1), .val (.int pa2), .val (.int (bs + en2)), .unset, .unset, .unset, .unset, .unset, .unset]) X hx (hb hby at_194) (pc' := 196) rfl rfl ?_
      obtain ⟨pb2, hpb2⟩ : ∃ z : Int32, z = (bs + en2) := ⟨_, rfl⟩
      rw [← hpb2]
      refine w_iload X hx (hb hby at_196) (pc' := 198) rfl rfl ?_
      have hf198 : ¬ ((3 : Int32) = (0 : Int32)) := (by decide)
      refine w_if_ne X hx (hb hby at_198) (pf := 201) (pt := 209) rfl (by decide) (by decide) (fun hc198 => ?_) (fun hc => absurd hc hf198)
      refine w_iload X hx (hb hby at_209) (pc' := 211) rfl rfl ?_
      refine w_iconst (v := 1) X hx (hb hby at_211) (pc' := 212) rfl rfl ?_
      have hf212 : ¬ ((3 : Int32) = (1 : Int32)) := (by decide)
      refine w_icmp_ne X hx (hb hby at_212) (pf := 215) (pt := 233) rfl (by decide) (by decide) (fun hc212 => ?_) (fun hc => absurd hc hf212)
      refine w_iload X hx (hb hby at_233) (pc' := 235) rfl rfl ?_
      refine w_iconst (v := 2) X hx (hb hby at_235) (pc' := 236) rfl rfl ?_
      have hf236 : ¬ ((3 : Int32) = (2 : Int32)) := (by decide)
      refine w_icmp_ne X hx (hb hby at_236) (pf := 239) (pt := 267) rfl (by decide) (by decide) (fun hc236 => ?_) (fun hc => absurd hc hf236)
      refine w_bipush (v := 6) X hx (hb hby at_267) (pc' := 269) rfl rfl ?_
      refine w_newI X hx hZ (cap := 6) e0 (hw _ (List.mem_of_getElem? (i := 3) rfl)) (by decide) (by decide) (by decide) (by decide) (by decide) (hb hby at_269) (pc' := 271) rfl (fun T30 h30 b30 X30 e30 E30 q30 V30 => ?_)
      have g_b30 : n0 ≤ b30 := by rw [q30]; exact Z0
      have V30 : AI Z h30 b30 .int [(0 : Int32), (0 : Int32), (0 : Int32), (0 : Int32), (0 : Int32), (0 : Int32)] := V30
      have zn30 : n0 ≤ h30.size := Nat.le_trans Z0 E30.1
      refine w_dup X30 hx (hb hby at_271) (pc' := 272) rfl rfl ?_
      refine w_iconst (v := 0) X30 hx (hb hby at_272) (pc' := 273) rfl rfl ?_
      refine w_iload X30 hx (hb hby at_273) (pc' := 275) rfl rfl ?_
      refine w_iastore X30 hx hZ e30 V30 (by decide) (by show _ < 6; decide) (hb hby at_275) (pc' := 276) rfl (fun T31 h31 X31 e31 W31 V31 => ?_)
      have V31 : AI Z h31 b30 .int [bs, (0 : Int32), (0 : Int32), (0 : Int32), (0 : Int32), (0 : Int32)] := V31
      have N31 := Fr.snoc X31 N0 g_b30
      have zn31 : n0 ≤ h31.size := by rw [W31.size]; exact zn30
      refine w_dup X31 hx (hb hby at_276) (pc' := 277) rfl rfl ?_
      refine w_iconst (v := 1) X31 hx (hb hby at_277) (pc' := 278) rfl rfl ?_
      refine w_iload X31 hx (hb hby at_278) (pc' := 280) rfl rfl ?_
      refine w_iastore X31 hx hZ e31 V31 (by decide) (by show _ < 6; decide) (hb hby at_280) (pc' := 281) rfl (fun T32 h32 X32 e32 W32 V32 => ?_)
      have V32 : AI Z h32 b30 .int [bs, pb0, (0 : Int32), (0 : Int32), (0 : Int32), (0 : Int32)] := V32
      have N32 := Fr.snoc X32 N31 g_b30
      have zn32 : n0 ≤ h32.size := by rw [W32.size]; exact zn31
      refine w_dup X32 hx (hb hby at_281) (pc' := 282) rfl rfl ?_
      refine w_iconst (v := 2) X32 hx (hb hby at_282) (pc' := 283) rfl rfl ?_
      refine w_iload X32 hx (hb hby at_283) (pc' := 285) rfl rfl ?_
      refine w_iastore X32 hx hZ e32 V32 (by decide) (by show _ < 6; decide) (hb hby at_285) (pc' := 286) rfl (fun T33 h33 X33 e33 W33 V33 => ?_)
      have V33 : AI Z h33 b30 .int [bs, pb0, pa1, (0 : Int32), (0 : Int32), (0 : Int32)] := V33
      have N33 := Fr.snoc X33 N32 g_b30
      have zn33 : n0 ≤ h33.size := by rw [W33.size]; exact zn32
      refine w_dup X33 hx (hb hby at_286) (pc' := 287) rfl rfl ?_
      refine w_iconst (v := 3) X33 hx (hb hby at_287) (pc' := 288) rfl rfl ?_
      refine w_iload X33 hx (hb hby at_288) (pc' := 290) rfl rfl ?_
      refine w_iastore X33 hx hZ e33 V33 (by decide) (by show _ < 6; decide) (hb hby at_290) (pc' := 291) rfl (fun T34 h34 X34 e34 W34 V34 => ?_)
      have V34 : AI Z h34 b30 .int [bs, pb0, pa1, pb1, (0 : Int32), (0 : Int32)] := V34
      have N34 := Fr.snoc X34 N33 g_b30
      have zn34 : n0 ≤ h34.size := by rw [W34.size]; exact zn33
      refine w_dup X34 hx (hb hby at_291) (pc' := 292) rfl rfl ?_
      refine w_iconst (v := 4) X34 hx (hb hby at_292) (pc' := 293) rfl rfl ?_
      refine w_iload X34 hx (hb hby at_293) (pc' := 295) rfl rfl ?_
      refine w_iastore X34 hx hZ e34 V34 (by decide) (by show _ < 6; decide) (hb hby at_295) (pc' := 296) rfl (fun T35 h35 X35 e35 W35 V35 => ?_)
      have V35 : AI Z h35 b30 .int [bs, pb0, pa1, pb1, pa2, (0 : Int32)] := V35
      have N35 := Fr.snoc X35 N34 g_b30
      have zn35 : n0 ≤ h35.size := by rw [W35.size]; exact zn34
      refine w_dup X35 hx (hb hby at_296) (pc' := 297) rfl rfl ?_
      refine w_iconst (v := 5) X35 hx (hb hby at_297) (pc' := 298) rfl rfl ?_
      refine w_iload X35 hx (hb hby at_298) (pc' := 300) rfl rfl ?_
      refine w_iastore X35 hx hZ e35 V35 (by decide) (by show _ < 6; decide) (hb hby at_300) (pc' := 301) rfl (fun T36 h36 X36 e36 W36 V36 => ?_)
      have V36 : AI Z h36 b30 .int [bs, pb0, pa1, pb1, pa2, pb2] := V36
      have N36 := Fr.snoc X36 N35 g_b30
      have zn36 : n0 ≤ h36.size := by rw [W36.size]; exact zn35
      refine w_astore (Ls' := #[.val (.int x0), .val (.int x1), .val (.long x2), .second, .val (.long x3), .second, .val (.int x4), .val (.int (3 : Int32)), .val (.int v1), .val (.int qa), .val (.int qb), .val (.int qc), .val (.int qd), .val (.int qe), .val (.int qa), .val (.int r1), .val (.int en1), .val (.int r2), .val (.int en2), .val (.int en2), .val (.int bs), .val (.int bs), .val (.int pb0), .val (.int pa1), .val (.int pb1), .val (.int pa2), .val (.int pb2), .val (.ref b30), .unset, .unset, .unset, .unset, .unset]) X36 hx (hb hby at_301) (pc' := 303) rfl rfl rfl ?_
      refine w_iloadN X36 hx (hb hby at_303) (pc' := 304) rfl rfl ?_
      refine w_istore (Ls' := #[.val (.int x0), .val (.int x1), .val (.long x2), .second, .val (.long x3), .second, .val (.int x4), .val (.int (3 : Int32)), .val (.int v1), .val (.int qa), .val (.int qb), .val (.int qc), .val (.int qd), .val (.int qe), .val (.int qa), .val (.int r1), .val (.int en1), .val (.int r2), .val (.int en2), .val (.int en2), .val (.int bs), .val (.int bs), .val (.int pb0), .val (.int pa1), .val (.int pb1), .val (.int pa2), .val (.int pb2), .val (.ref b30), .val (.int x1), .unset, .unset, .unset, .unset]) X36 hx (hb hby at_304) (pc' := 306) rfl rfl ?_
      refine w_iload X36 hx (hb hby at_306) (pc' := 308) rfl rfl ?_
      have J332_38 : ∀ (v37 : Int32), v37 = (if v1 = (0 : Int32) then x1 else ((bs - (1 : Int32)) + ((x1 &&& (2147483647 : Int32)) % (en2 + (3 : Int32))))) → Go p e below s room_1.cells room_1.slots (QL (some (.int 1)) n0) T36 (mkF m 332 #[.val (.int x0), .val (.int x1), .val (.long x2), .second, .val (.long x3), .second, .val (.int x4), .val (.int (3 : Int32)), .val (.int v1), .val (.int qa), .val (.int qb), .val (.int qc), .val (.int qd), .val (.int qe), .val (.int qa), .val (.int r1), .val (.int en1), .val (.int r2), .val (.int en2), .val (.int en2), .val (.int bs), .val (.int bs), .val (.int pb0), .val (.int pa1), .val (.int pb1), .val (.int pa2), .val (.int pb2), .val (.ref b30), .val (.int v37), .unset, .unset, .unset, .unset] []) := by
        intro v37 hv37
        refine w_iload X36 hx (hb hby at_332) (pc' := 334) rfl rfl ?_
        refine w_iconst (v := 1) X36 hx (hb hby at_334) (pc' := 335) rfl rfl ?_
        have hf335 : ¬ ((3 : Int32) < (1 : Int32)) := (by decide)
        refine w_icmp_lt X36 hx (hb hby at_335) (pf := 338) (pt := 356) rfl (by decide) (by decide) (fun hc => absurd hc hf335) (fun hc335 => ?_)
        refine w_iload X36 hx (hb hby at_338) (pc' := 340) rfl rfl ?_
        refine w_iload X36 hx (hb hby at_340) (pc' := 342) rfl rfl ?_
        have J357_40 : ∀ (v39 : Int32), v39 = (if v37 < bs then (0 : Int32) else (if pb0 < v37 then (0 : Int32) else (1 : Int32))) → Go p e below s room_1.cells room_1.slots (QL (some (.int 1)) n0) T36 (mkF m 357 #[.val (.int x0), .val (.int x1), .val (.long x2), .second, .val (.long x3), .second, .val (.int x4), .val (.int (3 : Int32)), .val (.int v1), .val (.int qa), .val (.int qb), .val (.int qc), .val (.int qd), .val (.int qe), .val (.int qa), .val (.int r1), .val (.int en1), .val (.int r2), .val (.int en2), .val (.int en2), .val (.int bs), .val (.int bs), .val (.int pb0), .val (.int pa1), .val (.int pb1), .val (.int pa2), .val (.int pb2), .val (.ref b30), .val (.int v37), .unset, .unset, .unset, .unset] [(.int v39)]) := by
          intro v39 hv39
          refine w_istore (Ls' := #[.val (.int x0), .val (.int x1), .val (.long x2), .second, .val (.long x3), .second, .val (.int x4), .val (.int (3 : Int32)), .val (.int v1), .val (.int qa), .val (.int qb), .val (.int qc), .val (.int qd), .val (.int qe), .val (.int qa), .val (.int r1), .val (.int en1), .val (.int r2), .val (.int en2), .val (.int en2), .val (.int bs), .val (.int bs), .val (.int pb0), .val (.int pa1), .val (.int pb1), .val (.int pa2), .val (.int pb2), .val (.ref b30), .val (.int v37), .val (.int v39), .unset, .unset, .unset]) X36 hx (hb hby at_357) (pc' := 359) rfl rfl ?_
          refine w_iload X36 hx (hb hby at_359) (pc' := 361) rfl rfl ?_
          refine w_iconst (v := 2) X36 hx (hb hby at_361) (pc' := 362) rfl rfl ?_
          have hf362 : ¬ ((3 : Int32) < (2 : Int32)) := (by decide)
          refine w_icmp_lt X36 hx (hb hby at_362) (pf := 365) (pt := 383) rfl (by decide) (by decide) (fun hc => absurd hc hf362) (fun hc362 => ?_)
          refine w_iload X36 hx (hb hby at_365) (pc' := 367) rfl rfl ?_
          refine w_iload X36 hx (hb hby at_367) (pc' := 369) rfl rfl ?_
          have J384_42 : ∀ (v41 : Int32), v41 = (if v37 < pa1 then (0 : Int32) else (if pb1 < v37 then (0 : Int32) else (1 : Int32))) → Go p e below s room_1.cells room_1.slots (QL (some (.int 1)) n0) T36 (mkF m 384 #[.val (.int x0), .val (.int x1), .val (.long x2), .second, .val (.long x3), .second, .val (.int x4), .val (.int (3 : Int32)), .val (.int v1), .val (.int qa), .val (.int qb), .val (.int qc), .val (.int qd), .val (.int qe), .val (.int qa), .val (.int r1), .val (.int en1), .val (.int r2), .val (.int en2), .val (.int en2), .val (.int bs), .val (.int bs), .val (.int pb0), .val (.int pa1), .val (.int pb1), .val (.int pa2), .val (.int pb2), .val (.ref b30), .val (.int v37), .val (.int v39), .unset, .unset, .unset] [(.int v41)]) := by
            intro v41 hv41
            refine w_istore (Ls' := #[.val (.int x0), .val (.int x1), .val (.long x2), .second, .val (.long x3), .second, .val (.int x4), .val (.int (3 : Int32)), .val (.int v1), .val (.int qa), .val (.int qb), .val (.int qc), .val (.int qd), .val (.int qe), .val (.int qa), .val (.int r1), .val (.int en1), .val (.int r2), .val (.int en2), .val (.int en2), .val (.int bs), .val (.int bs), .val (.int pb0), .val (.int pa1), .val (.int pb1), .val (.int pa2), .val (.int pb2), .val (.ref b30), .val (.int v37), .val (.int v39), .val (.int v41), .unset, .unset]) X36 hx (hb hby at_384) (pc' := 386) rfl rfl ?_
            refine w_iload X36 hx (hb hby at_386) (pc' := 388) rfl rfl ?_
            refine w_iconst (v := 3) X36 hx (hb hby at_388) (pc' := 389) rfl rfl ?_
            have hf389 : ¬ ((3 : Int32) < (3 : Int32)) := (by decide)
            refine w_icmp_lt X36 hx (hb hby at_389) (pf := 392) (pt := 410) rfl (by decide) (by decide) (fun hc => absurd hc hf389) (fun hc389 => ?_)
            refine w_iload X36 hx (hb hby at_392) (pc' := 394) rfl rfl ?_
            refine w_iload X36 hx (hb hby at_394) (pc' := 396) rfl rfl ?_
            have J411_44 : ∀ (v43 : Int32), v43 = (if v37 < pa2 then (0 : Int32) else (if pb2 < v37 then (0 : Int32) else (1 : Int32))) → Go p e below s room_1.cells room_1.slots (QL (some (.int 1)) n0) T36 (mkF m 411 #[.val (.int x0), .val (.int x1), .val (.long x2), .second, .val (.long x3), .second, .val (.int x4), .val (.int (3 : Int32)), .val (.int v1), .val (.int qa), .val (.int qb), .val (.int qc), .val (.int qd), .val (.int qe), .val (.int qa), .val (.int r1), .val (.int en1), .val (.int r2), .val (.int en2), .val (.int en2), .val (.int bs), .val (.int bs), .val (.int pb0), .val (.int pa1), .val (.int pb1), .val (.int pa2), .val (.int pb2), .val (.ref b30), .val (.int v37), .val (.int v39), .val (.int v41), .unset, .unset] [(.int v43)]) := by
              intro v43 hv43
              refine w_istore (Ls' := #[.val (.int x0), .val (.int x1), .val (.long x2), .second, .val (.long x3), .second, .val (.int x4), .val (.int (3 : Int32)), .val (.int v1), .val (.int qa), .val (.int qb), .val (.int qc), .val (.int qd), .val (.int qe), .val (.int qa), .val (.int r1), .val (.int en1), .val (.int r2), .val (.int en2), .val (.int en2), .val (.int bs), .val (.int bs), .val (.int pb0), .val (.int pa1), .val (.int pb1), .val (.int pa2), .val (.int pb2), .val (.ref b30), .val (.int v37), .val (.int v39), .val (.int v41), .val (.int v43), .unset]) X36 hx (hb hby at_411) (pc' := 413) rfl rfl ?_
              refine w_iload X36 hx (hb hby at_413) (pc' := 415) rfl rfl ?_
              have J433_46 : ∀ (v45 : Int32), v45 = (if v39 = (0 : Int32) then (if v41 = (0 : Int32) then (if v43 = (0 : Int32) then (0 : Int32) else (1 : Int32)) else (1 : Int32)) else (1 : Int32)) → Go p e below s room_1.cells room_1.slots (QL (some (.int 1)) n0) T36 (mkF m 433 #[.val (.int x0), .val (.int x1), .val (.long x2), .second, .val (.long x3), .second, .val (.int x4), .val (.int (3 : Int32)), .val (.int v1), .val (.int qa), .val (.int qb), .val (.int qc), .val (.int qd), .val (.int qe), .val (.int qa), .val (.int r1), .val (.int en1), .val (.int r2), .val (.int en2), .val (.int en2), .val (.int bs), .val (.int bs), .val (.int pb0), .val (.int pa1), .val (.int pb1), .val (.int pa2), .val (.int pb2), .val (.ref b30), .val (.int v37), .val (.int v39), .val (.int v41), .val (.int v43), .unset] [(.int v45)]) := by
                intro v45 hv45
                refine w_istore (Ls' := #[.val (.int x0), .val (.int x1), .val (.long x2), .second, .val (.long x3), .second, .val (.int x4), .val (.int (3 : Int32)), .val (.int v1), .val (.int qa), .val (.int qb), .val (.int qc), .val (.int qd), .val (.int qe), .val (.int qa), .val (.int r1), .val (.int en1), .val (.int r2), .val (.int en2), .val (.int en2), .val (.int bs), .val (.int bs), .val (.int pb0), .val (.int pa1), .val (.int pb1), .val (.int pa2), .val (.int pb2), .val (.ref b30), .val (.int v37), .val (.int v39), .val (.int v41), .val (.int v43), .val (.int v45)]) X36 hx (hb hby at_433) (pc' := 435) rfl rfl ?_
                refine w_aload X36 hx (hb hby at_435) (pc' := 437) rfl rfl rfl ?_
                refine w_iload X36 hx (hb hby at_437) (pc' := 439) rfl rfl ?_
                refine w_callS (argsL := [(.ref b30), (.int v37)]) (rest := []) X36 hx hZ hown e36 (rm1_n6 l Z a0 hw b30 v37 h36 n0 bs pb0 pa1 pb1 pa2 pb2 V36) (hw _ (List.mem_of_getElem? (i := 4) rfl)) (hw _ (List.mem_of_getElem? (i := 5) rfl)) (hw _ (List.mem_of_getElem? (i := 6) rfl)) (hw _ (List.mem_of_getElem? (i := 7) rfl)) (by decide) (by decide) (W := 0) (by decide) (by decide) (by decide) (by rw [hml]; rfl) (lenOf pd_0 rfl) (Nat.le_refl _) rfl (hb hby at_439) (pc' := 442) rfl (fun T47 L47 v47 X47 hQ47 => ?_)
                obtain ⟨rfl, N47q, e47⟩ := hQ47
                have N47 := Fr.app N36 N47q
                have X47 : Stand p l e room_1 s m _ below meth c T47 _ 1 6 := X47
                show Go p e below s room_1.cells room_1.slots (QL (some (.int 1)) n0) T47 (mkF m 442 #[.val (.int x0), .val (.int x1), .val (.long x2), .second, .val (.long x3), .second, .val (.int x4), .val (.int (3 : Int32)), .val (.int v1), .val (.int qa), .val (.int qb), .val (.int qc), .val (.int qd), .val (.int qe), .val (.int qa), .val (.int r1), .val (.int en1), .val (.int r2), .val (.int en2), .val (.int en2), .val (.int bs), .val (.int bs), .val (.int pb0), .val (.int pa1), .val (.int pb1), .val (.int pa2), .val (.int pb2), .val (.ref b30), .val (.int v37), .val (.int v39), .val (.int v41), .val (.int v43), .val (.int v45)] [(.int (K1_n6 bs pb0 pa1 pb1 pa2 pb2 v37))])
                refine w_iload X47 hx (hb hby at_442) (pc' := 444) rfl rfl ?_
                have hf444 : (K1_n6 bs pb0 pa1 pb1 pa2 pb2 v37) = v45 := own_k3 hqa hqb hqc hqd hqe hr1 hen1 hr2 hen2 hbs hpb0 hpa1 hpb1 hpa2 hpb2 hv39 hv41 hv43 hv45
                refine w_icmp_ne X47 hx (hb hby at_444) (pf := 447) (pt := 451) rfl (by decide) (by decide) (fun hc => absurd hf444 hc) (fun hc444 => ?_)
                refine w_iconst (v := 1) X47 hx (hb hby at_447) (pc' := 448) rfl rfl ?_
                refine w_goto X47 hx (hb hby at_448) (pc' := 452) (by decide) (by decide) ?_
                exact w_retZ X47 hx hret hlk (hb hby at_452) (by decide) (by decide) ⟨rfl, N47⟩
              refine w_if_ne X36 hx (hb hby at_415) (pf := 418) (pt := 428) rfl (by decide) (by decide) (fun hc415 => ?_) (fun hc415 => ?_)
              · refine w_iconst (v := 1) X36 hx (hb hby at_428) (pc' := 429) rfl rfl ?_
                refine w_goto X36 hx (hb hby at_429) (pc' := 433) (by decide) (by decide) ?_
                exact J433_46 ((1 : Int32)) (by rw [if_neg (show ¬ (v39 = (0 : Int32)) from (by assumption))])
              · refine w_iload X36 hx (hb hby at_418) (pc' := 420) rfl rfl ?_
                refine w_if_ne X36 hx (hb hby at_420) (pf := 423) (pt := 428) rfl (by decide) (by decide) (fun hc420 => ?_) (fun hc420 => ?_)
                · refine w_iconst (v := 1) X36 hx (hb hby at_428) (pc' := 429) rfl rfl ?_
                  refine w_goto X36 hx (hb hby at_429) (pc' := 433) (by decide) (by decide) ?_
                  exact J433_46 ((1 : Int32)) (by rw [if_pos (show v39 = (0 : Int32) from (by assumption)), if_neg (show ¬ (v41 = (0 : Int32)) from (by assumption))])
                · refine w_iload X36 hx (hb hby at_423) (pc' := 425) rfl rfl ?_
                  refine w_if_eq X36 hx (hb hby at_425) (pf := 428) (pt := 432) rfl (by decide) (by decide) (fun hc425 => ?_) (fun hc425 => ?_)
                  · refine w_iconst (v := 0) X36 hx (hb hby at_432) (pc' := 433) rfl rfl ?_
                    exact J433_46 ((0 : Int32)) (by rw [if_pos (show v39 = (0 : Int32) from (by assumption)), if_pos (show v41 = (0 : Int32) from (by assumption)), if_pos (show v43 = (0 : Int32) from (by assumption))])
                  · refine w_iconst (v := 1) X36 hx (hb hby at_428) (pc' := 429) rfl rfl ?_
                    refine w_goto X36 hx (hb hby at_429) (pc' := 433) (by decide) (by decide) ?_
                    exact J433_46 ((1 : Int32)) (by rw [if_pos (show v39 = (0 : Int32) from (by assumption)), if_pos (show v41 = (0 : Int32) from (by assumption)), if_neg (show ¬ (v43 = (0 : Int32)) from (by assumption))])
            refine w_icmp_gt X36 hx (hb hby at_396) (pf := 399) (pt := 410) rfl (by decide) (by decide) (fun hc396 => ?_) (fun hc396 => ?_)
            · refine w_iconst (v := 0) X36 hx (hb hby at_410) (pc' := 411) rfl rfl ?_
              exact J411_44 ((0 : Int32)) (by rw [if_pos (show v37 < pa2 from (by assumption))])
            · refine w_iload X36 hx (hb hby at_399) (pc' := 401) rfl rfl ?_
              refine w_iload X36 hx (hb hby at_401) (pc' := 403) rfl rfl ?_
              refine w_icmp_gt X36 hx (hb hby at_403) (pf := 406) (pt := 410) rfl (by decide) (by decide) (fun hc403 => ?_) (fun hc403 => ?_)
              · refine w_iconst (v := 0) X36 hx (hb hby at_410) (pc' := 411) rfl rfl ?_
                exact J411_44 ((0 : Int32)) (by rw [if_neg (show ¬ (v37 < pa2) from (by assumption)), if_pos (show pb2 < v37 from (by assumption))])
              · refine w_iconst (v := 1) X36 hx (hb hby at_406) (pc' := 407) rfl rfl ?_
                refine w_goto X36 hx (hb hby at_407) (pc' := 411) (by decide) (by decide) ?_
                exact J411_44 ((1 : Int32)) (by rw [if_neg (show ¬ (v37 < pa2) from (by assumption)), if_neg (show ¬ (pb2 < v37) from (by assumption))])
          refine w_icmp_gt X36 hx (hb hby at_369) (pf := 372) (pt := 383) rfl (by decide) (by decide) (fun hc369 => ?_) (fun hc369 => ?_)
          · refine w_iconst (v := 0) X36 hx (hb hby at_383) (pc' := 384) rfl rfl ?_
            exact J384_42 ((0 : Int32)) (by rw [if_pos (show v37 < pa1 from (by assumption))])
          · refine w_iload X36 hx (hb hby at_372) (pc' := 374) rfl rfl ?_
            refine w_iload X36 hx (hb hby at_374) (pc' := 376) rfl rfl ?_
            refine w_icmp_gt X36 hx (hb hby at_376) (pf := 379) (pt := 383) rfl (by decide) (by decide) (fun hc376 => ?_) (fun hc376 => ?_)
            · refine w_iconst (v := 0) X36 hx (hb hby at_383) (pc' := 384) rfl rfl ?_
              exact J384_42 ((0 : Int32)) (by rw [if_neg (show ¬ (v37 < pa1) from (by assumption)), if_pos (show pb1 < v37 from (by assumption))])
            · refine w_iconst (v := 1) X36 hx (hb hby at_379) (pc' := 380) rfl rfl ?_
              refine w_goto X36 hx (hb hby at_380) (pc' := 384) (by decide) (by decide) ?_
              exact J384_42 ((1 : Int32)) (by rw [if_neg (show ¬ (v37 < pa1) from (by assumption)), if_neg (show ¬ (pb1 < v37) from (by assumption))])
        refine w_icmp_gt X36 hx (hb hby at_342) (pf := 345) (pt := 356) rfl (by decide) (by decide) (fun hc342 => ?_) (fun hc342 => ?_)
        · refine w_iconst (v := 0) X36 hx (hb hby at_356) (pc' := 357) rfl rfl ?_
          exact J357_40 ((0 : Int32)) (by rw [if_pos (show v37 < bs from (by assumption))])
        · refine w_iload X36 hx (hb hby at_345) (pc' := 347) rfl rfl ?_
          refine w_iload X36 hx (hb hby at_347) (pc' := 349) rfl rfl ?_
          refine w_icmp_gt X36 hx (hb hby at_349) (pf := 352) (pt := 356) rfl (by decide) (by decide) (fun hc349 => ?_) (fun hc349 => ?_)
          · refine w_iconst (v := 0) X36 hx (hb hby at_356) (pc' := 357) rfl rfl ?_
            exact J357_40 ((0 : Int32)) (by rw [if_neg (show ¬ (v37 < bs) from (by assumption)), if_pos (show pb0 < v37 from (by assumption))])
          · refine w_iconst (v := 1) X36 hx (hb hby at_352) (pc' := 353) rfl rfl ?_
            refine w_goto X36 hx (hb hby at_353) (pc' := 357) (by decide) (by decide) ?_
            exact J357_40 ((1 : Int32)) (by rw [if_neg (show ¬ (v37 < bs) from (by assumption)), if_neg (show ¬ (pb0 < v37) from (by assumption))])
      refine w_if_eq X36 hx (hb hby at_308) (pf := 311) (pt := 332) rfl (by decide) (by decide) (fun hc308 => ?_) (fun hc308 => ?_)
      · exact J332_38 (x1) (by rw [if_pos (show v1 = (0 : Int32) from (by assumption))])
      · refine w_iload X36 hx (hb hby at_311) (pc' := 313) rfl rfl ?_
        have hf313 : (0 : Int32) < (3 : Int32) := (by decide)
        refine w_if_le X36 hx (hb hby at_313) (pf := 316) (pt := 332) rfl (by decide) (by decide) (fun hc => absurd hf313 hc) (fun hc313 => ?_)
        refine w_iload X36 hx (hb hby at_316) (pc' := 318) rfl rfl ?_
        refine w_iconst (v := 1) X36 hx (hb hby at_318) (pc' := 319) rfl rfl ?_
        refine w_isub X36 hx (hb hby at_319) (pc' := 320) rfl ?_
        refine w_iloadN X36 hx (hb hby at_320) (pc' := 321) rfl rfl ?_
        refine w_ldc X36 hx hZ hown (hw _ (List.mem_of_getElem? (i := 1) rfl)) (hb hby at_321) (pc' := 323) rfl ?_
        refine w_iand X36 hx (hb hby at_323) (pc' := 324) rfl ?_
        refine w_iload X36 hx (hb hby at_324) (pc' := 326) rfl rfl ?_
        refine w_iconst (v := 3) X36 hx (hb hby at_326) (pc' := 327) rfl rfl ?_
        refine w_iadd X36 hx (hb hby at_327) (pc' := 328) rfl ?_
        refine w_irem X36 hx (hb hby at_328) (pc' := 329) rfl (by first | decide | exact own_d2 (own_e0 hqa).1 (own_e0 hqa).2 | exact own_d2 (own_dd2 hqa hqb hqc hr1 hen1).1 (own_dd2 hqa hqb hqc hr1 hen1).2 | exact own_d2 (own_dd3 hqa hqb hqc hqd hqe hr1 hen1 hr2 hen2).1 (own_dd3 hqa hqb hqc hqd hqe hr1 hen1 hr2 hen2).2) ?_
        refine w_iadd X36 hx (hb hby at_329) (pc' := 330) rfl ?_
        refine w_istore (Ls' := #[.val (.int x0), .val (.int x1), .val (.long x2), .second, .val (.long x3), .second, .val (.int x4), .val (.int (3 : Int32)), .val (.int v1), .val (.int qa), .val (.int qb), .val (.int qc), .val (.int qd), .val (.int qe), .val (.int qa), .val (.int r1), .val (.int en1), .val (.int r2), .val (.int en2), .val (.int en2), .val (.int bs), .val (.int bs), .val (.int pb0), .val (.int pa1), .val (.int pb1), .val (.int pa2), .val (.int pb2), .val (.ref b30), .val (.int ((bs - (1 : Int32)) + ((x1 &&& (2147483647 : Int32)) % (en2 + (3 : Int32))))), .unset, .unset, .unset, .unset]) X36 hx (hb hby at_330) (pc' := 332) rfl rfl ?_
        exact J332_38 (((bs - (1 : Int32)) + ((x1 &&& (2147483647 : Int32)) % (en2 + (3 : Int32))))) (by rw [if_neg (show ¬ (v1 = (0 : Int32)) from (by assumption))])
  refine w_if_eq X hx (hb hby at_8) (pf := 11) (pt := 15) rfl (by decide) (by decide) (fun hc8 => ?_) (fun hc8 => ?_)
  · refine w_iconst (v := 0) X hx (hb hby at_15) (pc' := 16) rfl rfl ?_
    exact J16_2 ((0 : Int32)) (by rw [if_pos (show (x0 &&& (4 : Int32)) = (0 : Int32) from (by assumption))])
  · refine w_iconst (v := 1) X hx (hb hby at_11) (pc' := 12) rfl rfl ?_
    refine w_goto X hx (hb hby at_12) (pc' := 16) (by decide) (by decide) ?_
    exact J16_2 ((1 : Int32)) (by rw [if_neg (show ¬ ((x0 &&& (4 : Int32)) = (0 : Int32)) from (by assumption))])
set_option maxRecDepth 65536 in
set_option maxHeartbeats 40000000 in
theorem comes_1 {Post : Tables → Env → Array Value → State → Outcome → State → Prop} (hpost : ∀ tb e args s v u, (limb_1_1.after args s (.returned v) u = true ∧ limb_1_2.after args s (.returned v) u = true ∧ True) → FrameEnd s (.returned v) u (Jvm.fieldLocs frame_1_writes args s ++ Jvm.arrayLocs frame_1_arrays args s ++ Jvm.staticLocs frame_1_statics s) 16 128 → Post tb e args s (.returned v) u) :
    ArmFor flags0 classFile x code maxLocals ret World_1 tables_1 room_1 Calls_1 rest_1 Pre_1 Post := by
  intro l hfl _ _ p e ha hc hk s m args below hf hA hF happ hP
  obtain ⟨hcalls, hrest, hpre⟩ := hP
  obtain ⟨-, -, -, hnamed, -, -, -, hat⟩ := (Spec.applies_iff hf).mp happ
  obtain ⟨hg, hn⟩ := and_e (Cond.before_iff.mp (show (Jvm.Cond.and given_1 narrow_1).before args s = true from hpre))
  obtain ⟨g1, g2⟩ := and_e hg
  obtain ⟨g3, g4⟩ := and_e g2
  obtain ⟨g5, g6⟩ := and_e g4
  obtain ⟨g7, g8⟩ := and_e g6
  obtain ⟨g9, g10⟩ := and_e g8
  obtain ⟨w0, w1, w2, w3, w4, rfl⟩ : ∃ w0 w1 w2 w3 w4 : Value, args = #[w0, w1, w2, w3, w4] := by
    have hs : args.size = 5 := by simpa [Cond.value, given_1] using g1
    obtain ⟨L⟩ := args
    match L, hs with
    | [w0, w1, w2, w3, w4], _ => exact ⟨w0, w1, w2, w3, w4, rfl⟩
  have hw := fun d (hd : d ∈ tables_1) => atoms_spec (ws := Jvm.Cond.code x code maxLocals ret :: tables_1) hat d (List.mem_cons_of_mem _ hd)
  obtain ⟨i0, ei0⟩ := is_v g3
  obtain rfl : w0 = (.int i0) := Option.some.inj ei0
  obtain ⟨i1, ei1⟩ := is_v g5
  obtain rfl : w1 = (.int i1) := Option.some.inj ei1
  obtain ⟨i2, ei2⟩ := isL_v g7
  obtain rfl : w2 = (.long i2) := Option.some.inj ei2
  obtain ⟨i3, ei3⟩ := isL_v g9
  obtain rfl : w3 = (.long i3) := Option.some.inj ei3
  obtain ⟨i4, ei4⟩ := is_v g10
  obtain rfl : w4 = (.int i4) := Option.some.inj ei4
  have C := rm0 l s _ hw i0 i1 i2 i3 i4 s.heap s.heap.size (Nat.le_refl _)
  obtain ⟨n, o, h1, h2, h3, v, L, rfl, ⟨rfl, N⟩, hq⟩ := C tables_1 p e ha hc hk s m _ below hf ((Spec.applies_iff_loose hf).mp happ).1 ⟨rfl, State.Warmed39.refl s, rfl⟩ trivial
  refine ⟨n, _, h1, h2, h3, hpost _ _ _ _ _ _ ⟨Cond.after_iff.mpr rfl, Cond.after_iff.mpr (eq_i res_at (Term.int_eval (1)) rfl), trivial⟩ ⟨hq.1, hq.2.1, (hq.2.2.sift fun y hy => Or.inr (N y hy)).mono (by decide) (by decide)⟩⟩
theorem main_1_1 : Claimed_1_1 := comes_1 fun _ _ _ _ _ _ h hF => ⟨h.1, hF⟩
theorem main_1_2 : Claimed_1_2 := comes_1 fun _ _ _ _ _ _ h hF => ⟨h.2.1, hF⟩
end Jvm.Pilot.@@N@@
namespace Jvm.Pilot.@@N@@
open Jvm Jvm.ClassFile Sem Op Lib Jvm.Free Jvm.Stand Jvm.Pilot.@@N@@.Jvm.D
/-! MADE BY PROGRAM (witnessworld.py) out of the Statement's table words and the real class files: 9 classes; the members and pool entries that the words name. The judged class is class 1, her method 1. -/
namespace start1
open Jvm.ClassFile
def u (s : String) : CpInfo := .utf8 (stringToUtf16 s)
/-- a pool by its gaps: so many unusable entries, then the entry; so many at the end -/
def gap : Nat → List CpInfo → List CpInfo
  | 0, r => r
  | n + 1, r => .unusable :: gap n r
def poolList (es : List (Nat × CpInfo)) (last : Nat) : List CpInfo := es.foldr (fun e r => gap e.1 (e.2 :: r)) (gap last [])
def pool (es : List (Nat × CpInfo)) (last : Nat) : Array CpInfo := ⟨poolList es last⟩
def fileOf (pool : Array CpInfo) (this : Nat) (attrs : Array Attribute := #[]) (ms : Array MethodInfo := #[]) (fl : Nat := 33) (sup : Nat := 0) (ifs : Array Nat := #[]) (fds : Array FieldInfo := #[]) : ClassFile where
  minorVersion := 0
  majorVersion := 65
  constantPool := pool
  accessFlags := fl
  thisClass := this
  superClass := sup
  interfaces := ifs
  fields := fds
  methods := ms
  attributes := attrs
def plain (name : String) (sup : Option ClassId) : Class where
  name := name
  kind := .ordinary
  loader := none
  accessFlags := 33
  super := sup
  interfaces := #[]
  cf := none
  fields := #[]
  methods := #[]
  instanceTypes := #[]
  staticTypes := #[]
  resolved := #[]
  callSites := []
  init := .initialized
  statics := none
  mirror := none

def pool0 : Array CpInfo := pool [(5, u "<init>"), (0, u "()V"), (1, .class_ 10), (1, u "java/lang/Object")] 113

def k0m0 : Method := { name := "<init>", desc := "()V", sig := { parameters := [], returnType := none }, accessFlags := 1, code := none }
/-- java/lang/Object -/
def k0 : Class := { plain "java/lang/Object" none with
  accessFlags := 33
  interfaces := #[]
  cf := some (fileOf pool0 8 #[] #[{ accessFlags := 1, nameIndex := 5, descriptorIndex := 6, attributes := #[] }] 33 0 #[] #[])
  fields := #[]
  methods := #[k0m0]
  instanceTypes := #[]
  staticTypes := #[]
  resolved := Array.replicate 124 none
  statics := none }

def pool1 : Array CpInfo := pool [(2, .class_ 4), (1, u "java/lang/Object"), (0, u "<init>"), (0, u "()V"), (0, .long 131071), (1, .integer 2147483647), (0, .integer 1114112), (0, .methodref 12 13), (0, .class_ 14), (0, .nameAndType 15 16), (0, u "com/example/facet/facet/regex/Ranges"), (0, u "contains"), (0, u "([II)Z"), (0, .class_ 18), (0, u "com/example/facet/facet/regex/RangesContainsPinLaw"), (2, u "law"), (0, u "(IIJJI)Z")] 5

def k1m0 : Method := { name := "<init>", desc := "()V", sig := { parameters := [], returnType := none }, accessFlags := 1, code := none }
def k1c1 : Code := { maxStack := 4, maxLocals := 33, code := code, exceptionTable := #[], attributes := #[] }
def k1m1 : Method := { name := "law", desc := "(IIJJI)Z", sig := { parameters := [.int, .int, .long, .long, .int], returnType := some .boolean }, accessFlags := 9, code := some k1c1 }
/-- com/example/facet/facet/regex/RangesContainsPinLaw -/
def k1 : Class := { plain "com/example/facet/facet/regex/RangesContainsPinLaw" (some 0) with
  accessFlags := 49
  interfaces := #[]
  cf := some (fileOf pool1 17 #[] #[{ accessFlags := 1, nameIndex := 5, descriptorIndex := 6, attributes := #[] }, { accessFlags := 9, nameIndex := 21, descriptorIndex := 22, attributes := #[] }] 49 2 #[] #[])
  fields := #[]
  methods := #[k1m0, k1m1]
  instanceTypes := #[]
  staticTypes := #[]
  resolved := Array.replicate 28 none
  statics := none }

def pool2 : Array CpInfo := pool [(2, .class_ 4), (1, u "java/lang/Object"), (0, u "<init>"), (0, u "()V"), (19, .class_ 28), (1, u "com/example/facet/facet/regex/Ranges"), (26, u "NONE"), (0, u "[I"), (2, u "contains"), (0, u "([II)Z")] 23

def k2m0 : Method := { name := "<init>", desc := "()V", sig := { parameters := [], returnType := none }, accessFlags := 2, code := none }
def k2c1 : Code := { maxStack := 4, maxLocals := 5, code := prog_49_method_2_code, exceptionTable := #[], attributes := #[] }
def k2m1 : Method := { name := "contains", desc := "([II)Z", sig := { parameters := [(.array .int), .int], returnType := some .boolean }, accessFlags := 8, code := some k2c1 }
/-- com/example/facet/facet/regex/Ranges -/
def k2 : Class := { plain "com/example/facet/facet/regex/Ranges" (some 0) with
  accessFlags := 48
  interfaces := #[]
  cf := some (fileOf pool2 26 #[] #[{ accessFlags := 2, nameIndex := 5, descriptorIndex := 6, attributes := #[] }, { accessFlags := 8, nameIndex := 59, descriptorIndex := 60, attributes := #[] }] 48 2 #[] #[{ accessFlags := 24, nameIndex := 55, descriptorIndex := 56, attributes := #[] }])
  fields := #[{ name := "NONE", type := (.array .int), accessFlags := 24, slot := 0, constantValue := 0 }]
  methods := #[k2m0, k2m1]
  instanceTypes := #[]
  staticTypes := #[(.array .int)]
  resolved := Array.replicate 84 none
  statics := none }

def pool3 : Array CpInfo := pool [(1, u "java/lang/Cloneable"), (0, .class_ 1), (0, u "java/lang/Object"), (0, .class_ 3)] 3

/-- java/lang/Cloneable -/
def k3 : Class := { plain "java/lang/Cloneable" (some 0) with
  accessFlags := 1537
  interfaces := #[]
  cf := some (fileOf pool3 2 #[] #[] 1537 4 #[] #[])
  fields := #[]
  methods := #[]
  instanceTypes := #[]
  staticTypes := #[]
  resolved := Array.replicate 8 none
  statics := none }

def pool4 : Array CpInfo := pool [(1, u "java/io/Serializable"), (0, .class_ 1), (0, u "java/lang/Object"), (0, .class_ 3)] 3

/-- java/io/Serializable -/
def k4 : Class := { plain "java/io/Serializable" (some 0) with
  accessFlags := 1537
  interfaces := #[]
  cf := some (fileOf pool4 2 #[] #[] 1537 4 #[] #[])
  fields := #[]
  methods := #[]
  instanceTypes := #[]
  staticTypes := #[]
  resolved := Array.replicate 8 none
  statics := none }

/-- the primitive byte -/
def k5 : Class := { plain "byte" none with kind := .primitive 'B', accessFlags := 0x411 }
/-- [B -/
def k6 : Class := { plain "[B" (some 0) with kind := .array 5 .byte, interfaces := #[3, 4], accessFlags := 1041 }

/-- the primitive int -/
def k7 : Class := { plain "int" none with kind := .primitive 'I', accessFlags := 0x411 }
/-- [I -/
def k8 : Class := { plain "[I" (some 0) with kind := .array 7 .int, interfaces := #[3, 4], accessFlags := 1041 }

def heap : Heap := #[]
def classes : Array Class := #[k0, k1, k2, k3, k4, k5, k6, k7, k8]
def interned : List (Array UInt16 × Addr) := []
def slotsUsed : Nat := 0
def theMethod : MethodId := ⟨1, 1⟩
def args0 : Array Value := #[.int 3, .int 4, .long 5, .long 6, .int 7]
def aboutOver (below : List Frame) : State where
  vm := { classes := classes, interned := interned.toArray }
  heap := heap
  slotsUsed := slotsUsed
  threads := #[{ frames := .invoking theMethod args0 :: below }]
def below0 : List Frame := [.native { method := ⟨0, 0⟩, args := #[] }]
def about1 : State := aboutOver below0
def p0 : Program := .bare "" "" ""
def e0 : Env := launch0.env 0 0 0
theorem w_frames : about1.frames = Frame.invoking theMethod args0 :: below0 := rfl
set_option maxRecDepth 65536 in
theorem w_args : argsFit about1.vm theMethod args0 = true := by decide +kernel
set_option maxRecDepth 65536 in
theorem w_heap : heapFits about1 = true := by decide +kernel
set_option maxRecDepth 65536 in
theorem w_runnable : about1.curStatus? = some .runnable := by decide +kernel
set_option maxRecDepth 65536 in
theorem w_alone : about1.alone = true := by decide +kernel
set_option maxRecDepth 65536 in
theorem w_named : about1.methodNamed? x = some theMethod := by decide +kernel
set_option maxRecDepth 65536 in
theorem w_hears : about1.hears theMethod below0 = true := by decide +kernel
set_option maxRecDepth 65536 in
theorem w_ripe : about1.ripe theMethod args0 below0 = true := by decide +kernel
theorem w_running : about1.status = .running := rfl
set_option maxRecDepth 65536 in
theorem w_room : about1.hasRoom e0.platform room_1 = true :=
  launch0.hasRoom_least _ room_1 (by decide +kernel) (by decide +kernel) (by decide +kernel) (by decide +kernel) (by decide +kernel) (by decide +kernel)
theorem allAtoms_all (ts : List Jvm.Cond) (a : Array Jvm.Value) (st : Jvm.State) : (allAtoms ts).before a st = ts.all (fun c => c.before a st) := by
  induction ts with
  | nil => rfl
  | cons c t ih =>
    show (Jvm.Cond.and c (allAtoms t)).before a st = _
    rw [Jvm.Cond.before_and, ih, List.all_cons]
def words1 : List Jvm.Cond := Jvm.Cond.code x code maxLocals ret :: tables_1
/-- a 'code' word, met by the world's own term for the bytes: nothing is compared byte by byte -/
theorem code_word {y : MethodName} {bytes : ByteArray} {mx : Nat} {rt : Option FieldType} {a : Array Value} {s : State} {m : MethodId} {meth : Method} {c : Code} (h1 : s.methodNamed? y = some m) (h2 : s.vm.method? m = some meth) (h3 : meth.code = some c) (h4 : c.code = bytes)
    (h5 : (c.maxLocals == mx && c.exceptionTable.isEmpty && decide (c.maxStack ≤ mostOperands) && decide (meth.sig.returnType = rt) && !meth.locks && decide (parseMethodDescriptor y.desc = some meth.sig)) = true) : (Jvm.Cond.code y bytes mx rt).before a s = true := by
  simp only [Bool.and_eq_true, beq_iff_eq, Bool.not_eq_true', decide_eq_true_eq] at h5
  obtain ⟨⟨⟨⟨⟨g1, g2⟩, g3⟩, g4⟩, g5⟩, g6⟩ := h5
  simp [Cond.before, Cond.holds, Cond.value, h1, h2, h3, h4, g1, g2, g3, g4, g5, g6]
def isCode : Jvm.Cond → Bool
  | .code _ _ _ _ => true
  | _ => false
theorem all_split {L : List Jvm.Cond} {P : Jvm.Cond → Bool} (h1 : L.all (fun c => isCode c || P c) = true) (h2 : ∀ c ∈ L.filter isCode, P c = true) : L.all P = true := by
  refine List.all_eq_true.mpr fun c hc => ?_
  have h := List.all_eq_true.mp h1 c hc
  rcases Bool.eq_false_or_eq_true (isCode c) with hi | hi
  · exact h2 c (List.mem_filter.mpr ⟨hc, hi⟩)
  · simpa [hi] using h
set_option maxRecDepth 65536 in
theorem w_c0 : (Jvm.Cond.code x code maxLocals ret).before args0 about1 = true := code_word (m := ⟨1, 1⟩) (meth := k1m1) (c := k1c1) (by decide +kernel) rfl rfl rfl (by decide +kernel)
set_option maxRecDepth 65536 in
theorem w_c1 : (Jvm.Cond.code ({ cls := "com/example/facet/facet/regex/Ranges", name := "contains", desc := "([II)Z" } : Jvm.MethodName) prog_49_method_2_code (5 : Nat) (Option.some Jvm.ClassFile.FieldType.boolean)).before args0 about1 = true := code_word (m := ⟨2, 1⟩) (meth := k2m1) (c := k2c1) (by decide +kernel) rfl rfl rfl (by decide +kernel)
def codes1 : List Jvm.Cond := [Jvm.Cond.code x code maxLocals ret, Jvm.Cond.code ({ cls := "com/example/facet/facet/regex/Ranges", name := "contains", desc := "([II)Z" } : Jvm.MethodName) prog_49_method_2_code (5 : Nat) (Option.some Jvm.ClassFile.FieldType.boolean)]
set_option maxRecDepth 65536 in
theorem codes_eq : words1.filter isCode = codes1 := rfl
theorem w_codes : ∀ c ∈ words1.filter isCode, c.before args0 about1 = true := by
  rw [codes_eq]
  intro c hc
  simp only [codes1, List.mem_cons, List.not_mem_nil, or_false] at hc
  rcases hc with rfl | rfl
  · exact w_c0
  · exact w_c1
set_option maxRecDepth 65536 in
theorem w_t1 : words1.all (fun c => isCode c || c.before args0 about1) = true := by decide +kernel
theorem w_tables : (allAtoms (Jvm.Cond.code x code maxLocals ret :: tables_1)).before args0 about1 = true := by
  rw [allAtoms_all]
  show words1.all (fun c => c.before args0 about1) = true
  refine all_split ?_ w_codes
  rw [w_t1]
set_option maxRecDepth 65536 in
theorem w_case : (Jvm.Cond.and given_1 narrow_1).before args0 about1 = true := by decide +kernel
theorem w_applies : (headSpec (Jvm.Cond.code x code maxLocals ret :: tables_1) room_1).applies x e0.platform about1 = true :=
  (Spec.applies_iff w_frames).mpr ⟨w_running, w_runnable, w_alone, w_named, w_hears, w_ripe, w_room, w_tables⟩
theorem atStart : AtStart classFile x code maxLocals ret World_1 tables_1 room_1 Calls_1 rest_1 Pre_1 launch0 p0 e0 about1 theMethod args0 below0 :=
  ⟨lists_1, trivial, launch0.admits_env _ _ _, launch0.least_env, fairChoices_fair.cas, fairChoices_fair.clock, w_frames, w_args, w_heap, w_applies, trivial, trivial, w_case⟩
end start1
theorem witness_1 : WitnessClaimed_1 := ⟨start1.p0, start1.e0, start1.about1, start1.theMethod, start1.args0, start1.below0, start1.atStart⟩
end Jvm.Pilot.@@N@@
