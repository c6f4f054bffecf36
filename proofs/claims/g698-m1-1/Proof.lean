import JvmDerived
import JvmDerived.Pilot.@@N@@Statement
import JvmDerived.Pilot.@@N@@Code
set_option linter.unusedVariables false
set_option linter.unusedSimpArgs false
@@BLOCK:NumsL.lean.txt@@
namespace Jvm.Pilot.@@N@@
open Jvm Jvm.ClassFile Sem Op Lib Jvm.Free Jvm.Stand Jvm.LawKit Jvm.RoadKit Bundle Jvm.Pilot.@@N@@.Jvm.D
section OwnKit
variable {p : Program} {l : Launch} {e : Env} {R : Room} {s : State} {m : MethodId} {args : Array Value} {below : List Frame} {meth : Method} {c : Code} {T T' : State} {locs : List Loc} {cells slots : Nat} {Z : State} {a0 : Array Value} {h h' : Heap} {cm sm : Nat} {Q : Option Value → Heap → List Loc → Prop} {pc pc' : Nat} {Ls Ls' : Array Slot} {St : List Value}
/-- the walk's goal: from this frame the method comes to its end, and Q holds of what it leaves -/
def Go (p : Program) (e : Env) (below : List Frame) (s : State) (cm sm : Nat) (Q : Option Value → Heap → List Loc → Prop) (T : State) (g : JFrame) : Prop :=
  ∃ s₂ o, Steps p.tables e below (T.setTop g) s₂ ∧ s₂.status = .running ∧ Ended s₂ below o ∧ ∃ v L, o = .returned v ∧ Q v s₂.heap L ∧ FrameEnd s o s₂ L cm sm
theorem Go.st {g g' : JFrame} (q : ∀ t, Steps p.tables e below (T'.setTop g') t → Steps p.tables e below (T.setTop g) t) (k : Go p e below s cm sm Q T' g') : Go p e below s cm sm Q T g := by
  obtain ⟨s₂, o, st, r⟩ := k
  exact ⟨s₂, o, q _ st, r⟩
theorem Go.weak {g : JFrame} {Q' : Option Value → Heap → List Loc → Prop} (k : Go p e below s cm sm Q T g) (q : ∀ v h L, Q v h L → Q' v h L) : Go p e below s cm sm Q' T g := by
  obtain ⟨s₂, o, st, r1, r2, v, L, r3, r4, r5⟩ := k
  exact ⟨s₂, o, st, r1, r2, v, L, r3, q _ _ _ r4, r5⟩
/-- a contract -/
def Con (l : Launch) (Z : State) (y : MethodName) (bytes : ByteArray) (maxL : Nat) (ret : Option FieldType) (rm : Room) (as' : Array Value) (h : Heap) (Q : Option Value → Heap → List Loc → Prop) : Prop :=
  ∀ ws : List Jvm.Cond, MetFree l y (head1 (Jvm.Cond.code y bytes maxL ret :: ws) rm) (fun a U => a = as' ∧ Z.Warmed39 U.vm ∧ U.heap = h) (fun _ _ _ _ _ => True) (fun _ U o U' => ∃ v L, o = .returned v ∧ Q v U'.heap L ∧ FrameEnd U o U' L rm.cells rm.slots)
theorem Con.of {y : MethodName} {bytes : ByteArray} {maxL : Nat} {ret : Option FieldType} {rm : Room} {as' : Array Value} (hpl : plainFor y = true)
    (body : ∀ (p : Program) (e : Env) (s : State) (m : MethodId) (below : List Frame) (meth : Method) (c : Code) (T : State), Stand p l e rm s m as' below meth c T [] 0 0 → p.tables.exec = Jvm.exec → Z.Warmed39 s.vm → c.code = bytes → c.maxLocals = maxL → s.vm.findClass y.cls = some m.cls → meth.name = y.name → meth.sig.returnType = ret → meth.locks = false → T.heap = h → Go p e below s rm.cells rm.slots Q T (entryFrame m as' maxL)) :
    Con l Z y bytes maxL ret rm as' h Q := by
  intro ws
  refine MetFree.of_bodySF hpl hisR ?_
  intro p e s m args below meth c s₁ Bd hml0 hP hK
  obtain ⟨rfl, hZ, hh⟩ := hP
  exact body p e s m below meth c s₁ (Stand.of_body Bd) Bd.exec hZ Bd.bytes hml0 (findClass_of_methodNamed Bd.named) (name_of_methodNamed Bd.named Bd.method).1 Bd.returns Bd.notSynchronized (by rw [← hh, Bd.state]; rfl)
theorem Con.weak {y : MethodName} {bytes : ByteArray} {maxL : Nat} {ret : Option FieldType} {rm : Room} {as' : Array Value} {Q' : Option Value → Heap → List Loc → Prop} (C : Con l Z y bytes maxL ret rm as' h Q) (q : ∀ v h L, Q v h L → Q' v h L) : Con l Z y bytes maxL ret rm as' h Q' := by
  intro ws p e ha hc hk s m args below hf happ hP hK
  obtain ⟨n, o, h1, h2, h3, v, L, r3, r4, r5⟩ := C ws p e ha hc hk s m args below hf happ hP hK
  exact ⟨n, o, h1, h2, h3, v, L, r3, q _ _ _ r4, r5⟩
/-- what a body that writes nothing leaves -/
abbrev QP (v0 : Option Value) (h0 : Heap) (n0 : Nat) : Option Value → Heap → List Loc → Prop := fun v h L => v = v0 ∧ Fr n0 L ∧ h = h0
/-- what a law leaves -/
abbrev QL (v0 : Option Value) (n0 : Nat) : Option Value → Heap → List Loc → Prop := fun v _ L => v = v0 ∧ Fr n0 L
/-- iushr, lushr -/
def jushr (x y : Int32) : Int32 := (x.toUInt32 >>> (y &&& 31).toUInt32).toInt32
def jlushr (x : Int64) (y : Int32) : Int64 := (x.toUInt64 >>> (y &&& 0x3f).toInt64.toUInt64).toInt64
theorem w_iloadN (X : Stand p l e R s m args below meth c T locs cells slots) (hx : p.tables.exec = Jvm.exec) {k : Fin 4} {v : Int32} (hd : decode c.code pc = .ok (.iload_n k, 1)) (hp : pc + 1 = pc') (hl : Ls[k.val]? = some (.val (.int v)))
    (kk : Go p e below s cm sm Q T (mkF m pc' Ls (.int v :: St))) : Go p e below s cm sm Q T (mkF m pc Ls (St)) := by
  subst hp
  exact Go.st (fun t q => XS.iloadN (g := mkF m pc Ls (St)) X.here hx rfl hd hl q) kk
theorem w_iload (X : Stand p l e R s m args below meth c T locs cells slots) (hx : p.tables.exec = Jvm.exec) {k : Nat} {v : Int32} (hd : decode c.code pc = .ok (.iload k, 2)) (hp : pc + 2 = pc') (hl : Ls[k]? = some (.val (.int v)))
    (kk : Go p e below s cm sm Q T (mkF m pc' Ls (.int v :: St))) : Go p e below s cm sm Q T (mkF m pc Ls (St)) := by
  subst hp
  exact Go.st (fun t q => XS.iload (g := mkF m pc Ls (St)) X.here hx rfl hd hl q) kk
theorem w_istoreN (X : Stand p l e R s m args below meth c T locs cells slots) (hx : p.tables.exec = Jvm.exec) {k : Fin 4} {x : Int32} (hd : decode c.code pc = .ok (.istore_n k, 1)) (hp : pc + 1 = pc') (hl : storeLocals Ls k.val (.int x) = some Ls')
    (kk : Go p e below s cm sm Q T (mkF m pc' Ls' (St))) : Go p e below s cm sm Q T (mkF m pc Ls (.int x :: St)) := by
  subst hp
  exact Go.st (fun t q => XS.istoreN (g := mkF m pc Ls (.int x :: St)) X.here hx rfl hd rfl hl q) kk
theorem w_istore (X : Stand p l e R s m args below meth c T locs cells slots) (hx : p.tables.exec = Jvm.exec) {k : Nat} {x : Int32} (hd : decode c.code pc = .ok (.istore k, 2)) (hp : pc + 2 = pc') (hl : storeLocals Ls k (.int x) = some Ls')
    (kk : Go p e below s cm sm Q T (mkF m pc' Ls' (St))) : Go p e below s cm sm Q T (mkF m pc Ls (.int x :: St)) := by
  subst hp
  exact Go.st (fun t q => XS.istore (g := mkF m pc Ls (.int x :: St)) X.here hx rfl hd rfl hl q) kk
theorem w_lloadN (X : Stand p l e R s m args below meth c T locs cells slots) (hx : p.tables.exec = Jvm.exec) {k : Fin 4} {v : Int64} (hd : decode c.code pc = .ok (.lload_n k, 1)) (hp : pc + 1 = pc') (hl : Ls[k.val]? = some (.val (.long v)))
    (kk : Go p e below s cm sm Q T (mkF m pc' Ls (.long v :: St))) : Go p e below s cm sm Q T (mkF m pc Ls (St)) := by
  subst hp
  exact Go.st (fun t q => XS.lloadN (g := mkF m pc Ls (St)) X.here hx rfl hd hl q) kk
theorem w_lload (X : Stand p l e R s m args below meth c T locs cells slots) (hx : p.tables.exec = Jvm.exec) {k : Nat} {v : Int64} (hd : decode c.code pc = .ok (.lload k, 2)) (hp : pc + 2 = pc') (hl : Ls[k]? = some (.val (.long v)))
    (kk : Go p e below s cm sm Q T (mkF m pc' Ls (.long v :: St))) : Go p e below s cm sm Q T (mkF m pc Ls (St)) := by
  subst hp
  exact Go.st (fun t q => XS.lload (g := mkF m pc Ls (St)) X.here hx rfl hd hl q) kk
theorem w_lstoreN (X : Stand p l e R s m args below meth c T locs cells slots) (hx : p.tables.exec = Jvm.exec) {k : Fin 4} {x : Int64} (hd : decode c.code pc = .ok (.lstore_n k, 1)) (hp : pc + 1 = pc') (hl : storeLocals Ls k.val (.long x) = some Ls')
    (kk : Go p e below s cm sm Q T (mkF m pc' Ls' (St))) : Go p e below s cm sm Q T (mkF m pc Ls (.long x :: St)) := by
  subst hp
  exact Go.st (fun t q => XS.lstoreN (g := mkF m pc Ls (.long x :: St)) X.here hx rfl hd rfl hl q) kk
theorem w_lstore (X : Stand p l e R s m args below meth c T locs cells slots) (hx : p.tables.exec = Jvm.exec) {k : Nat} {x : Int64} (hd : decode c.code pc = .ok (.lstore k, 2)) (hp : pc + 2 = pc') (hl : storeLocals Ls k (.long x) = some Ls')
    (kk : Go p e below s cm sm Q T (mkF m pc' Ls' (St))) : Go p e below s cm sm Q T (mkF m pc Ls (.long x :: St)) := by
  subst hp
  exact Go.st (fun t q => XS.lstore (g := mkF m pc Ls (.long x :: St)) X.here hx rfl hd rfl hl q) kk
theorem w_aloadN (X : Stand p l e R s m args below meth c T locs cells slots) (hx : p.tables.exec = Jvm.exec) {k : Fin 4} {v : Value} (hd : decode c.code pc = .ok (.aload_n k, 1)) (hp : pc + 1 = pc') (hl : Ls[k.val]? = some (.val v)) (hv : v.isRef = true)
    (kk : Go p e below s cm sm Q T (mkF m pc' Ls (v :: St))) : Go p e below s cm sm Q T (mkF m pc Ls (St)) := by
  subst hp
  exact Go.st (fun t q => XS.aloadN (g := mkF m pc Ls (St)) X.here hx rfl hd hl hv q) kk
theorem w_aload (X : Stand p l e R s m args below meth c T locs cells slots) (hx : p.tables.exec = Jvm.exec) {k : Nat} {v : Value} (hd : decode c.code pc = .ok (.aload k, 2)) (hp : pc + 2 = pc') (hl : Ls[k]? = some (.val v)) (hv : v.isRef = true)
    (kk : Go p e below s cm sm Q T (mkF m pc' Ls (v :: St))) : Go p e below s cm sm Q T (mkF m pc Ls (St)) := by
  subst hp
  exact Go.st (fun t q => XS.aload (g := mkF m pc Ls (St)) X.here hx rfl hd hl hv q) kk
theorem w_astoreN (X : Stand p l e R s m args below meth c T locs cells slots) (hx : p.tables.exec = Jvm.exec) {k : Fin 4} {x : Value} (hd : decode c.code pc = .ok (.astore_n k, 1)) (hp : pc + 1 = pc') (hv : x.isRef = true) (hl : storeLocals Ls k.val x = some Ls')
    (kk : Go p e below s cm sm Q T (mkF m pc' Ls' (St))) : Go p e below s cm sm Q T (mkF m pc Ls (x :: St)) := by
  subst hp
  exact Go.st (fun t q => XS.astoreN (g := mkF m pc Ls (x :: St)) X.here hx rfl hd rfl hv hl q) kk
theorem w_astore (X : Stand p l e R s m args below meth c T locs cells slots) (hx : p.tables.exec = Jvm.exec) {k : Nat} {x : Value} (hd : decode c.code pc = .ok (.astore k, 2)) (hp : pc + 2 = pc') (hv : x.isRef = true) (hl : storeLocals Ls k x = some Ls')
    (kk : Go p e below s cm sm Q T (mkF m pc' Ls' (St))) : Go p e below s cm sm Q T (mkF m pc Ls (x :: St)) := by
  subst hp
  exact Go.st (fun t q => XS.astore (g := mkF m pc Ls (x :: St)) X.here hx rfl hd rfl hv hl q) kk
theorem w_iconst (X : Stand p l e R s m args below meth c T locs cells slots) (hx : p.tables.exec = Jvm.exec) {i : Int} {v : Int32} (hd : decode c.code pc = .ok (.iconst i, 1)) (hp : pc + 1 = pc') (hv : Int32.ofInt i = v)
    (kk : Go p e below s cm sm Q T (mkF m pc' Ls (.int v :: St))) : Go p e below s cm sm Q T (mkF m pc Ls St) := by
  subst hp hv
  exact Go.st (fun t q => XS.iconst (g := mkF m pc Ls St) X.here hx rfl hd q) kk
theorem w_bipush (X : Stand p l e R s m args below meth c T locs cells slots) (hx : p.tables.exec = Jvm.exec) {i : Int} {v : Int32} (hd : decode c.code pc = .ok (.bipush i, 2)) (hp : pc + 2 = pc') (hv : (Int8.ofInt i).toInt32 = v)
    (kk : Go p e below s cm sm Q T (mkF m pc' Ls (.int v :: St))) : Go p e below s cm sm Q T (mkF m pc Ls St) := by
  subst hp hv
  exact Go.st (fun t q => XS.bipush (g := mkF m pc Ls St) X.here hx rfl hd q) kk
theorem w_sipush (X : Stand p l e R s m args below meth c T locs cells slots) (hx : p.tables.exec = Jvm.exec) {i : Int} {v : Int32} (hd : decode c.code pc = .ok (.sipush i, 3)) (hp : pc + 3 = pc') (hv : (Int16.ofInt i).toInt32 = v)
    (kk : Go p e below s cm sm Q T (mkF m pc' Ls (.int v :: St))) : Go p e below s cm sm Q T (mkF m pc Ls St) := by
  subst hp hv
  exact Go.st (fun t q => XS.sipush (g := mkF m pc Ls St) X.here hx rfl hd q) kk
theorem w_lconst (X : Stand p l e R s m args below meth c T locs cells slots) (hx : p.tables.exec = Jvm.exec) {i : Fin 2} {v : Int64} (hd : decode c.code pc = .ok (.lconst i, 1)) (hp : pc + 1 = pc') (hv : Int64.ofNat i = v)
    (kk : Go p e below s cm sm Q T (mkF m pc' Ls (.long v :: St))) : Go p e below s cm sm Q T (mkF m pc Ls St) := by
  subst hp hv
  exact Go.st (fun t q => XS.lconst (g := mkF m pc Ls St) X.here hx rfl hd q) kk
theorem w_aconstNull (X : Stand p l e R s m args below meth c T locs cells slots) (hx : p.tables.exec = Jvm.exec)  (hd : decode c.code pc = .ok (.aconst_null, 1)) (hp : pc + 1 = pc')
    (kk : Go p e below s cm sm Q T (mkF m pc' Ls (.null :: St))) : Go p e below s cm sm Q T (mkF m pc Ls (St)) := by
  subst hp
  exact Go.st (fun t q => XS.aconstNull (g := mkF m pc Ls (St)) X.here hx rfl hd q) kk
theorem w_iadd (X : Stand p l e R s m args below meth c T locs cells slots) (hx : p.tables.exec = Jvm.exec) {x y : Int32} (hd : decode c.code pc = .ok (.iadd, 1)) (hp : pc + 1 = pc')
    (kk : Go p e below s cm sm Q T (mkF m pc' Ls (.int (x + y) :: St))) : Go p e below s cm sm Q T (mkF m pc Ls (.int y :: .int x :: St)) := by
  subst hp
  exact Go.st (fun t q => XS.iadd (g := mkF m pc Ls (.int y :: .int x :: St)) X.here hx rfl hd rfl q) kk
theorem w_ladd (X : Stand p l e R s m args below meth c T locs cells slots) (hx : p.tables.exec = Jvm.exec) {x y : Int64} (hd : decode c.code pc = .ok (.ladd, 1)) (hp : pc + 1 = pc')
    (kk : Go p e below s cm sm Q T (mkF m pc' Ls (.long (x + y) :: St))) : Go p e below s cm sm Q T (mkF m pc Ls (.long y :: .long x :: St)) := by
  subst hp
  exact Go.st (fun t q => XS.ladd (g := mkF m pc Ls (.long y :: .long x :: St)) X.here hx rfl hd rfl q) kk
theorem w_isub (X : Stand p l e R s m args below meth c T locs cells slots) (hx : p.tables.exec = Jvm.exec) {x y : Int32} (hd : decode c.code pc = .ok (.isub, 1)) (hp : pc + 1 = pc')
    (kk : Go p e below s cm sm Q T (mkF m pc' Ls (.int (x - y) :: St))) : Go p e below s cm sm Q T (mkF m pc Ls (.int y :: .int x :: St)) := by
  subst hp
  exact Go.st (fun t q => XS.isub (g := mkF m pc Ls (.int y :: .int x :: St)) X.here hx rfl hd rfl q) kk
theorem w_lsub (X : Stand p l e R s m args below meth c T locs cells slots) (hx : p.tables.exec = Jvm.exec) {x y : Int64} (hd : decode c.code pc = .ok (.lsub, 1)) (hp : pc + 1 = pc')
    (kk : Go p e below s cm sm Q T (mkF m pc' Ls (.long (x - y) :: St))) : Go p e below s cm sm Q T (mkF m pc Ls (.long y :: .long x :: St)) := by
  subst hp
  exact Go.st (fun t q => XS.lsub (g := mkF m pc Ls (.long y :: .long x :: St)) X.here hx rfl hd rfl q) kk
theorem w_imul (X : Stand p l e R s m args below meth c T locs cells slots) (hx : p.tables.exec = Jvm.exec) {x y : Int32} (hd : decode c.code pc = .ok (.imul, 1)) (hp : pc + 1 = pc')
    (kk : Go p e below s cm sm Q T (mkF m pc' Ls (.int (x * y) :: St))) : Go p e below s cm sm Q T (mkF m pc Ls (.int y :: .int x :: St)) := by
  subst hp
  exact Go.st (fun t q => XS.imul (g := mkF m pc Ls (.int y :: .int x :: St)) X.here hx rfl hd rfl q) kk
theorem w_lmul (X : Stand p l e R s m args below meth c T locs cells slots) (hx : p.tables.exec = Jvm.exec) {x y : Int64} (hd : decode c.code pc = .ok (.lmul, 1)) (hp : pc + 1 = pc')
    (kk : Go p e below s cm sm Q T (mkF m pc' Ls (.long (x * y) :: St))) : Go p e below s cm sm Q T (mkF m pc Ls (.long y :: .long x :: St)) := by
  subst hp
  exact Go.st (fun t q => XS.lmul (g := mkF m pc Ls (.long y :: .long x :: St)) X.here hx rfl hd rfl q) kk
theorem w_iand (X : Stand p l e R s m args below meth c T locs cells slots) (hx : p.tables.exec = Jvm.exec) {x y : Int32} (hd : decode c.code pc = .ok (.iand, 1)) (hp : pc + 1 = pc')
    (kk : Go p e below s cm sm Q T (mkF m pc' Ls (.int (x &&& y) :: St))) : Go p e below s cm sm Q T (mkF m pc Ls (.int y :: .int x :: St)) := by
  subst hp
  exact Go.st (fun t q => XS.iand (g := mkF m pc Ls (.int y :: .int x :: St)) X.here hx rfl hd rfl q) kk
theorem w_land (X : Stand p l e R s m args below meth c T locs cells slots) (hx : p.tables.exec = Jvm.exec) {x y : Int64} (hd : decode c.code pc = .ok (.land, 1)) (hp : pc + 1 = pc')
    (kk : Go p e below s cm sm Q T (mkF m pc' Ls (.long (x &&& y) :: St))) : Go p e below s cm sm Q T (mkF m pc Ls (.long y :: .long x :: St)) := by
  subst hp
  exact Go.st (fun t q => XS.land (g := mkF m pc Ls (.long y :: .long x :: St)) X.here hx rfl hd rfl q) kk
theorem w_ior (X : Stand p l e R s m args below meth c T locs cells slots) (hx : p.tables.exec = Jvm.exec) {x y : Int32} (hd : decode c.code pc = .ok (.ior, 1)) (hp : pc + 1 = pc')
    (kk : Go p e below s cm sm Q T (mkF m pc' Ls (.int (x ||| y) :: St))) : Go p e below s cm sm Q T (mkF m pc Ls (.int y :: .int x :: St)) := by
  subst hp
  exact Go.st (fun t q => XS.ior (g := mkF m pc Ls (.int y :: .int x :: St)) X.here hx rfl hd rfl q) kk
theorem w_lor (X : Stand p l e R s m args below meth c T locs cells slots) (hx : p.tables.exec = Jvm.exec) {x y : Int64} (hd : decode c.code pc = .ok (.lor, 1)) (hp : pc + 1 = pc')
    (kk : Go p e below s cm sm Q T (mkF m pc' Ls (.long (x ||| y) :: St))) : Go p e below s cm sm Q T (mkF m pc Ls (.long y :: .long x :: St)) := by
  subst hp
  exact Go.st (fun t q => XS.lor (g := mkF m pc Ls (.long y :: .long x :: St)) X.here hx rfl hd rfl q) kk
theorem w_ixor (X : Stand p l e R s m args below meth c T locs cells slots) (hx : p.tables.exec = Jvm.exec) {x y : Int32} (hd : decode c.code pc = .ok (.ixor, 1)) (hp : pc + 1 = pc')
    (kk : Go p e below s cm sm Q T (mkF m pc' Ls (.int (x ^^^ y) :: St))) : Go p e below s cm sm Q T (mkF m pc Ls (.int y :: .int x :: St)) := by
  subst hp
  exact Go.st (fun t q => XS.ixor (g := mkF m pc Ls (.int y :: .int x :: St)) X.here hx rfl hd rfl q) kk
theorem w_lxor (X : Stand p l e R s m args below meth c T locs cells slots) (hx : p.tables.exec = Jvm.exec) {x y : Int64} (hd : decode c.code pc = .ok (.lxor, 1)) (hp : pc + 1 = pc')
    (kk : Go p e below s cm sm Q T (mkF m pc' Ls (.long (x ^^^ y) :: St))) : Go p e below s cm sm Q T (mkF m pc Ls (.long y :: .long x :: St)) := by
  subst hp
  exact Go.st (fun t q => XS.lxor (g := mkF m pc Ls (.long y :: .long x :: St)) X.here hx rfl hd rfl q) kk
theorem w_idiv (X : Stand p l e R s m args below meth c T locs cells slots) (hx : p.tables.exec = Jvm.exec) {x y : Int32} (hd : decode c.code pc = .ok (.idiv, 1)) (hp : pc + 1 = pc') (hy : y ≠ 0)
    (kk : Go p e below s cm sm Q T (mkF m pc' Ls (.int (x / y) :: St))) : Go p e below s cm sm Q T (mkF m pc Ls (.int y :: .int x :: St)) := by
  subst hp
  exact Go.st (fun t q => XS.idiv (g := mkF m pc Ls (.int y :: .int x :: St)) X.here hx rfl hd rfl hy q) kk
theorem own_irem (x y : Int32) : x - x / y * y = x % y := by
  apply Int32.toInt_inj.mp
  have h : x.toInt - x.toInt.tdiv y.toInt * y.toInt = x.toInt.tmod y.toInt := by
    have := Int.mul_tdiv_add_tmod x.toInt y.toInt
    rw [Int.mul_comm]; omega
  have hr := (x % y).toInt_lt
  have hl := (x % y).le_toInt
  rw [Int32.toInt_mod] at hr hl
  rw [Int32.toInt_sub, Int32.toInt_mul, Int32.toInt_div, Int32.toInt_mod, Int.bmod_mul_bmod, Int.sub_bmod_bmod, h, Jvm.Kit.bmod32 (by omega) (by omega)]
theorem w_irem (X : Stand p l e R s m args below meth c T locs cells slots) (hx : p.tables.exec = Jvm.exec) {x y : Int32} (hd : decode c.code pc = .ok (.irem, 1)) (hp : pc + 1 = pc') (hy : y ≠ 0)
    (kk : Go p e below s cm sm Q T (mkF m pc' Ls (.int (x % y) :: St))) : Go p e below s cm sm Q T (mkF m pc Ls (.int y :: .int x :: St)) := by
  subst hp
  rw [← own_irem] at kk
  exact Go.st (fun t q => XS.irem (g := mkF m pc Ls (.int y :: .int x :: St)) X.here hx rfl hd rfl hy q) kk
theorem w_ldiv (X : Stand p l e R s m args below meth c T locs cells slots) (hx : p.tables.exec = Jvm.exec) {x y : Int64} (hd : decode c.code pc = .ok (.ldiv, 1)) (hp : pc + 1 = pc') (hy : y ≠ 0)
    (kk : Go p e below s cm sm Q T (mkF m pc' Ls (.long (x / y) :: St))) : Go p e below s cm sm Q T (mkF m pc Ls (.long y :: .long x :: St)) := by
  subst hp
  exact Go.st (fun t q => XS.ldiv (g := mkF m pc Ls (.long y :: .long x :: St)) X.here hx rfl hd rfl hy q) kk
theorem own_lrem (x y : Int64) : x - x / y * y = x % y := by
  apply Int64.toInt_inj.mp
  have h : x.toInt - x.toInt.tdiv y.toInt * y.toInt = x.toInt.tmod y.toInt := by
    have := Int.mul_tdiv_add_tmod x.toInt y.toInt
    rw [Int.mul_comm]; omega
  have hr := (x % y).toInt_lt
  have hl := (x % y).le_toInt
  rw [Int64.toInt_mod] at hr hl
  rw [Int64.toInt_sub, Int64.toInt_mul, Int64.toInt_div, Int64.toInt_mod, Int.bmod_mul_bmod, Int.sub_bmod_bmod, h, Jvm.Kit.bmod64 (by omega) (by omega)]
theorem w_lrem (X : Stand p l e R s m args below meth c T locs cells slots) (hx : p.tables.exec = Jvm.exec) {x y : Int64} (hd : decode c.code pc = .ok (.lrem, 1)) (hp : pc + 1 = pc') (hy : y ≠ 0)
    (kk : Go p e below s cm sm Q T (mkF m pc' Ls (.long (x % y) :: St))) : Go p e below s cm sm Q T (mkF m pc Ls (.long y :: .long x :: St)) := by
  subst hp
  rw [← own_lrem] at kk
  exact Go.st (fun t q => XS.lrem (g := mkF m pc Ls (.long y :: .long x :: St)) X.here hx rfl hd rfl hy q) kk
theorem w_ineg (X : Stand p l e R s m args below meth c T locs cells slots) (hx : p.tables.exec = Jvm.exec) {x : Int32} (hd : decode c.code pc = .ok (.ineg, 1)) (hp : pc + 1 = pc')
    (kk : Go p e below s cm sm Q T (mkF m pc' Ls (.int (-x) :: St))) : Go p e below s cm sm Q T (mkF m pc Ls (.int x :: St)) := by
  subst hp
  exact Go.st (fun t q => XS.ineg (g := mkF m pc Ls (.int x :: St)) X.here hx rfl hd rfl q) kk
theorem w_lneg (X : Stand p l e R s m args below meth c T locs cells slots) (hx : p.tables.exec = Jvm.exec) {x : Int64} (hd : decode c.code pc = .ok (.lneg, 1)) (hp : pc + 1 = pc')
    (kk : Go p e below s cm sm Q T (mkF m pc' Ls (.long (-x) :: St))) : Go p e below s cm sm Q T (mkF m pc Ls (.long x :: St)) := by
  subst hp
  exact Go.st (fun t q => XS.lneg (g := mkF m pc Ls (.long x :: St)) X.here hx rfl hd rfl q) kk
theorem w_i2l (X : Stand p l e R s m args below meth c T locs cells slots) (hx : p.tables.exec = Jvm.exec) {x : Int32} (hd : decode c.code pc = .ok (.i2l, 1)) (hp : pc + 1 = pc')
    (kk : Go p e below s cm sm Q T (mkF m pc' Ls (.long x.toInt64 :: St))) : Go p e below s cm sm Q T (mkF m pc Ls (.int x :: St)) := by
  subst hp
  exact Go.st (fun t q => XS.i2l (g := mkF m pc Ls (.int x :: St)) X.here hx rfl hd rfl q) kk
theorem w_l2i (X : Stand p l e R s m args below meth c T locs cells slots) (hx : p.tables.exec = Jvm.exec) {x : Int64} (hd : decode c.code pc = .ok (.l2i, 1)) (hp : pc + 1 = pc')
    (kk : Go p e below s cm sm Q T (mkF m pc' Ls (.int x.toInt32 :: St))) : Go p e below s cm sm Q T (mkF m pc Ls (.long x :: St)) := by
  subst hp
  exact Go.st (fun t q => XS.l2i (g := mkF m pc Ls (.long x :: St)) X.here hx rfl hd rfl q) kk
theorem w_i2b (X : Stand p l e R s m args below meth c T locs cells slots) (hx : p.tables.exec = Jvm.exec) {x : Int32} (hd : decode c.code pc = .ok (.i2b, 1)) (hp : pc + 1 = pc')
    (kk : Go p e below s cm sm Q T (mkF m pc' Ls (.int x.toInt8.toInt32 :: St))) : Go p e below s cm sm Q T (mkF m pc Ls (.int x :: St)) := by
  subst hp
  exact Go.st (fun t q => XS.i2b (g := mkF m pc Ls (.int x :: St)) X.here hx rfl hd rfl q) kk
theorem w_i2c (X : Stand p l e R s m args below meth c T locs cells slots) (hx : p.tables.exec = Jvm.exec) {x : Int32} (hd : decode c.code pc = .ok (.i2c, 1)) (hp : pc + 1 = pc')
    (kk : Go p e below s cm sm Q T (mkF m pc' Ls (.int x.toUInt32.toUInt16.toUInt32.toInt32 :: St))) : Go p e below s cm sm Q T (mkF m pc Ls (.int x :: St)) := by
  subst hp
  exact Go.st (fun t q => XS.i2c (g := mkF m pc Ls (.int x :: St)) X.here hx rfl hd rfl q) kk
theorem w_ishl (X : Stand p l e R s m args below meth c T locs cells slots) (hx : p.tables.exec = Jvm.exec) {x y : Int32} (hd : decode c.code pc = .ok (.ishl, 1)) (hp : pc + 1 = pc')
    (kk : Go p e below s cm sm Q T (mkF m pc' Ls (.int (x <<< (y &&& 31)) :: St))) : Go p e below s cm sm Q T (mkF m pc Ls (.int y :: .int x :: St)) := by
  subst hp
  exact Go.st (fun t q => XS.ishl (g := mkF m pc Ls (.int y :: .int x :: St)) X.here hx rfl hd rfl q) kk
theorem w_ishr (X : Stand p l e R s m args below meth c T locs cells slots) (hx : p.tables.exec = Jvm.exec) {x y : Int32} (hd : decode c.code pc = .ok (.ishr, 1)) (hp : pc + 1 = pc')
    (kk : Go p e below s cm sm Q T (mkF m pc' Ls (.int (x >>> (y &&& 31)) :: St))) : Go p e below s cm sm Q T (mkF m pc Ls (.int y :: .int x :: St)) := by
  subst hp
  exact Go.st (fun t q => XS.ishr (g := mkF m pc Ls (.int y :: .int x :: St)) X.here hx rfl hd rfl q) kk
theorem w_iushr (X : Stand p l e R s m args below meth c T locs cells slots) (hx : p.tables.exec = Jvm.exec) {x y : Int32} (hd : decode c.code pc = .ok (.iushr, 1)) (hp : pc + 1 = pc')
    (kk : Go p e below s cm sm Q T (mkF m pc' Ls (.int (jushr x y) :: St))) : Go p e below s cm sm Q T (mkF m pc Ls (.int y :: .int x :: St)) := by
  subst hp
  exact Go.st (fun t q => XS.iushr (g := mkF m pc Ls (.int y :: .int x :: St)) X.here hx rfl hd rfl q) kk
theorem w_lshl (X : Stand p l e R s m args below meth c T locs cells slots) (hx : p.tables.exec = Jvm.exec) {x : Int64} {y : Int32} (hd : decode c.code pc = .ok (.lshl, 1)) (hp : pc + 1 = pc')
    (kk : Go p e below s cm sm Q T (mkF m pc' Ls (.long (x <<< (y &&& 0x3f).toInt64) :: St))) : Go p e below s cm sm Q T (mkF m pc Ls (.int y :: .long x :: St)) := by
  subst hp
  exact Go.st (fun t q => XS.lshl (g := mkF m pc Ls (.int y :: .long x :: St)) X.here hx rfl hd rfl q) kk
theorem w_lshr (X : Stand p l e R s m args below meth c T locs cells slots) (hx : p.tables.exec = Jvm.exec) {x : Int64} {y : Int32} (hd : decode c.code pc = .ok (.lshr, 1)) (hp : pc + 1 = pc')
    (kk : Go p e below s cm sm Q T (mkF m pc' Ls (.long (x >>> (y &&& 0x3f).toInt64) :: St))) : Go p e below s cm sm Q T (mkF m pc Ls (.int y :: .long x :: St)) := by
  subst hp
  exact Go.st (fun t q => XS.lshr (g := mkF m pc Ls (.int y :: .long x :: St)) X.here hx rfl hd rfl q) kk
theorem w_lushr (X : Stand p l e R s m args below meth c T locs cells slots) (hx : p.tables.exec = Jvm.exec) {x : Int64} {y : Int32} (hd : decode c.code pc = .ok (.lushr, 1)) (hp : pc + 1 = pc')
    (kk : Go p e below s cm sm Q T (mkF m pc' Ls (.long (jlushr x y) :: St))) : Go p e below s cm sm Q T (mkF m pc Ls (.int y :: .long x :: St)) := by
  subst hp
  exact Go.st (fun t q => XS.lushr (g := mkF m pc Ls (.int y :: .long x :: St)) X.here hx rfl hd rfl q) kk
theorem w_lcmp (X : Stand p l e R s m args below meth c T locs cells slots) (hx : p.tables.exec = Jvm.exec) {x y : Int64} (hd : decode c.code pc = .ok (.lcmp, 1)) (hp : pc + 1 = pc')
    (kk : Go p e below s cm sm Q T (mkF m pc' Ls (.int (lcmpW x y) :: St))) : Go p e below s cm sm Q T (mkF m pc Ls (.long y :: .long x :: St)) := by
  subst hp
  exact Go.st (fun t q => XS.lcmp (g := mkF m pc Ls (.long y :: .long x :: St)) X.here hx rfl hd rfl q) kk
theorem w_dup (X : Stand p l e R s m args below meth c T locs cells slots) (hx : p.tables.exec = Jvm.exec) {x : Value} (hd : decode c.code pc = .ok (.dup, 1)) (hp : pc + 1 = pc') (hv : x.category = 1)
    (kk : Go p e below s cm sm Q T (mkF m pc' Ls (x :: x :: St))) : Go p e below s cm sm Q T (mkF m pc Ls (x :: St)) := by
  subst hp
  exact Go.st (fun t q => XS.dup (g := mkF m pc Ls (x :: St)) X.here hx rfl hd rfl hv q) kk
theorem w_pop (X : Stand p l e R s m args below meth c T locs cells slots) (hx : p.tables.exec = Jvm.exec) {x : Value} (hd : decode c.code pc = .ok (.pop, 1)) (hp : pc + 1 = pc') (hv : x.category = 1)
    (kk : Go p e below s cm sm Q T (mkF m pc' Ls (St))) : Go p e below s cm sm Q T (mkF m pc Ls (x :: St)) := by
  subst hp
  exact Go.st (fun t q => XS.pop (g := mkF m pc Ls (x :: St)) X.here hx rfl hd rfl hv q) kk
theorem w_dupX1 (X : Stand p l e R s m args below meth c T locs cells slots) (hx : p.tables.exec = Jvm.exec) {x y : Value} (hd : decode c.code pc = .ok (.dup_x1, 1)) (hp : pc + 1 = pc') (hv : x.category = 1) (hv' : y.category = 1)
    (kk : Go p e below s cm sm Q T (mkF m pc' Ls (x :: y :: x :: St))) : Go p e below s cm sm Q T (mkF m pc Ls (x :: y :: St)) := by
  subst hp
  exact Go.st (fun t q => XS.dupX1 (g := mkF m pc Ls (x :: y :: St)) X.here hx rfl hd rfl hv hv' q) kk
theorem w_iinc (X : Stand p l e R s m args below meth c T locs cells slots) (hx : p.tables.exec = Jvm.exec) {k : Nat} {cst : Int} {x w : Int32} (hd : decode c.code pc = .ok (.iinc k cst, 3)) (hp : pc + 3 = pc') (hl : Ls[k]? = some (.val (.int x))) (hv : Int32.ofInt cst = w) (hl' : storeLocals Ls k (.int (x + w)) = some Ls')
    (kk : Go p e below s cm sm Q T (mkF m pc' Ls' St)) : Go p e below s cm sm Q T (mkF m pc Ls St) := by
  subst hp hv
  exact Go.st (fun t q => XS.iinc (g := mkF m pc Ls St) X.here hx rfl hd hl hl' q) kk
theorem w_goto (X : Stand p l e R s m args below meth c T locs cells slots) (hx : p.tables.exec = Jvm.exec) {o : Int} (hd : decode c.code pc = .ok (.goto o, 3)) (ho : 0 ≤ (pc : Int) + o) (hp : ((pc : Int) + o).toNat = pc')
    (kk : Go p e below s cm sm Q T (mkF m pc' Ls St)) : Go p e below s cm sm Q T (mkF m pc Ls St) :=
  Go.st (fun t q => XS.goto (g := mkF m pc Ls St) X.here hx rfl (pc0 := pc) (pc' := pc') rfl hd ho hp q) kk
theorem w_icmp0 (X : Stand p l e R s m args below meth c T locs cells slots) (hx : p.tables.exec = Jvm.exec) {cd : ClassFile.Cond} {x y : Int32} {o : Int} {pt pf : Nat} (hd : decode c.code pc = .ok (.if_icmp cd o, 3)) (hf : pc + 3 = pf) (ho : 0 ≤ (pc : Int) + o) (hp : ((pc : Int) + o).toNat = pt)
    (kT : if_icmp.holds cd x y = true → Go p e below s cm sm Q T (mkF m pt Ls St)) (kF : if_icmp.holds cd x y = false → Go p e below s cm sm Q T (mkF m pf Ls St)) : Go p e below s cm sm Q T (mkF m pc Ls (.int y :: .int x :: St)) := by
  subst hf
  cases hc : if_icmp.holds cd x y with
  | true => exact Go.st (fun t q => XS.icmpYes (g := mkF m pc Ls (.int y :: .int x :: St)) X.here hx rfl (pc0 := pc) (pc' := pt) rfl hd rfl hc ho hp q) (kT hc)
  | false => exact Go.st (fun t q => XS.icmpNo (g := mkF m pc Ls (.int y :: .int x :: St)) X.here hx rfl hd rfl hc q) (kF hc)
theorem w_if0 (X : Stand p l e R s m args below meth c T locs cells slots) (hx : p.tables.exec = Jvm.exec) {cd : ClassFile.Cond} {x : Int32} {o : Int} {pt pf : Nat} (hd : decode c.code pc = .ok (.ifCond cd o, 3)) (hf : pc + 3 = pf) (ho : 0 ≤ (pc : Int) + o) (hp : ((pc : Int) + o).toNat = pt)
    (kT : if_icmp.holds cd x 0 = true → Go p e below s cm sm Q T (mkF m pt Ls St)) (kF : if_icmp.holds cd x 0 = false → Go p e below s cm sm Q T (mkF m pf Ls St)) : Go p e below s cm sm Q T (mkF m pc Ls (.int x :: St)) := by
  subst hf
  cases hc : if_icmp.holds cd x 0 with
  | true => exact Go.st (fun t q => XS.ifYes (g := mkF m pc Ls (.int x :: St)) X.here hx rfl (pc0 := pc) (pc' := pt) rfl hd rfl ((if0 _ _).trans hc) ho hp q) (kT hc)
  | false => exact Go.st (fun t q => XS.ifNo (g := mkF m pc Ls (.int x :: St)) X.here hx rfl hd rfl ((if0 _ _).trans hc) q) (kF hc)
theorem h_lt {x y : Int32} : (if_icmp.holds .lt x y = true → x < y) ∧ (if_icmp.holds .lt x y = false → ¬ x < y) := ⟨fun h => Decidable.byContradiction fun q => by simp [(flt q).1] at h, fun h q => by simp [(tlt q).1] at h⟩
theorem h_ge {x y : Int32} : (if_icmp.holds .ge x y = true → ¬ x < y) ∧ (if_icmp.holds .ge x y = false → x < y) := ⟨fun h q => by simp [(tlt q).2.1] at h, fun h => Decidable.byContradiction fun q => by simp [(flt q).2.1] at h⟩
theorem h_gt {x y : Int32} : (if_icmp.holds .gt x y = true → y < x) ∧ (if_icmp.holds .gt x y = false → ¬ y < x) := ⟨fun h => Decidable.byContradiction fun q => by simp [(flt q).2.2.1] at h, fun h q => by simp [(tlt q).2.2.1] at h⟩
theorem h_le {x y : Int32} : (if_icmp.holds .le x y = true → ¬ y < x) ∧ (if_icmp.holds .le x y = false → y < x) := ⟨fun h q => by simp [(tlt q).2.2.2] at h, fun h => Decidable.byContradiction fun q => by simp [(flt q).2.2.2] at h⟩
theorem h_eq {x y : Int32} : (if_icmp.holds .eq x y = true → x = y) ∧ (if_icmp.holds .eq x y = false → ¬ x = y) := ⟨fun h => Decidable.byContradiction fun q => by simp [(feq q).1] at h, fun h q => by simp [(teq q).1] at h⟩
theorem h_ne {x y : Int32} : (if_icmp.holds .ne x y = true → ¬ x = y) ∧ (if_icmp.holds .ne x y = false → x = y) := ⟨fun h q => by simp [(teq q).2] at h, fun h => Decidable.byContradiction fun q => by simp [(feq q).2] at h⟩
theorem w_icmp_lt (X : Stand p l e R s m args below meth c T locs cells slots) (hx : p.tables.exec = Jvm.exec) {x y : Int32} {o : Int} {pt pf : Nat} (hd : decode c.code pc = .ok (.if_icmp .lt o, 3)) (hf : pc + 3 = pf) (ho : 0 ≤ (pc : Int) + o) (hp : ((pc : Int) + o).toNat = pt)
    (kT : x < y → Go p e below s cm sm Q T (mkF m pt Ls St)) (kF : ¬ (x < y) → Go p e below s cm sm Q T (mkF m pf Ls St)) : Go p e below s cm sm Q T (mkF m pc Ls (.int y :: .int x :: St)) :=
  w_icmp0 X hx hd hf ho hp (fun h => kT (h_lt.1 h)) (fun h => kF (h_lt.2 h))
theorem w_if_lt (X : Stand p l e R s m args below meth c T locs cells slots) (hx : p.tables.exec = Jvm.exec) {x : Int32} {o : Int} {pt pf : Nat} (hd : decode c.code pc = .ok (.ifCond .lt o, 3)) (hf : pc + 3 = pf) (ho : 0 ≤ (pc : Int) + o) (hp : ((pc : Int) + o).toNat = pt)
    (kT : x < 0 → Go p e below s cm sm Q T (mkF m pt Ls St)) (kF : ¬ (x < 0) → Go p e below s cm sm Q T (mkF m pf Ls St)) : Go p e below s cm sm Q T (mkF m pc Ls (.int x :: St)) :=
  w_if0 X hx hd hf ho hp (fun h => kT (h_lt.1 h)) (fun h => kF (h_lt.2 h))
theorem w_ifL_lt (X : Stand p l e R s m args below meth c T locs cells slots) (hx : p.tables.exec = Jvm.exec) {x y : Int64} {o : Int} {pt pf : Nat} (hd : decode c.code pc = .ok (.ifCond .lt o, 3)) (hf : pc + 3 = pf) (ho : 0 ≤ (pc : Int) + o) (hp : ((pc : Int) + o).toNat = pt)
    (kT : x < y → Go p e below s cm sm Q T (mkF m pt Ls St)) (kF : ¬ (x < y) → Go p e below s cm sm Q T (mkF m pf Ls St)) : Go p e below s cm sm Q T (mkF m pc Ls (.int (lcmpW x y) :: St)) :=
  w_if_lt X hx hd hf ho hp (fun q => kT ((lw_lt x y).1 q)) (fun q => kF (fun r => q ((lw_lt x y).2 r)))
theorem w_icmp_ge (X : Stand p l e R s m args below meth c T locs cells slots) (hx : p.tables.exec = Jvm.exec) {x y : Int32} {o : Int} {pt pf : Nat} (hd : decode c.code pc = .ok (.if_icmp .ge o, 3)) (hf : pc + 3 = pf) (ho : 0 ≤ (pc : Int) + o) (hp : ((pc : Int) + o).toNat = pt)
    (kT : ¬ (x < y) → Go p e below s cm sm Q T (mkF m pt Ls St)) (kF : x < y → Go p e below s cm sm Q T (mkF m pf Ls St)) : Go p e below s cm sm Q T (mkF m pc Ls (.int y :: .int x :: St)) :=
  w_icmp0 X hx hd hf ho hp (fun h => kT (h_ge.1 h)) (fun h => kF (h_ge.2 h))
theorem w_if_ge (X : Stand p l e R s m args below meth c T locs cells slots) (hx : p.tables.exec = Jvm.exec) {x : Int32} {o : Int} {pt pf : Nat} (hd : decode c.code pc = .ok (.ifCond .ge o, 3)) (hf : pc + 3 = pf) (ho : 0 ≤ (pc : Int) + o) (hp : ((pc : Int) + o).toNat = pt)
    (kT : ¬ (x < 0) → Go p e below s cm sm Q T (mkF m pt Ls St)) (kF : x < 0 → Go p e below s cm sm Q T (mkF m pf Ls St)) : Go p e below s cm sm Q T (mkF m pc Ls (.int x :: St)) :=
  w_if0 X hx hd hf ho hp (fun h => kT (h_ge.1 h)) (fun h => kF (h_ge.2 h))
theorem w_ifL_ge (X : Stand p l e R s m args below meth c T locs cells slots) (hx : p.tables.exec = Jvm.exec) {x y : Int64} {o : Int} {pt pf : Nat} (hd : decode c.code pc = .ok (.ifCond .ge o, 3)) (hf : pc + 3 = pf) (ho : 0 ≤ (pc : Int) + o) (hp : ((pc : Int) + o).toNat = pt)
    (kT : ¬ (x < y) → Go p e below s cm sm Q T (mkF m pt Ls St)) (kF : x < y → Go p e below s cm sm Q T (mkF m pf Ls St)) : Go p e below s cm sm Q T (mkF m pc Ls (.int (lcmpW x y) :: St)) :=
  w_if_ge X hx hd hf ho hp (fun q => kT (fun r => q ((lw_lt x y).2 r))) (fun q => kF ((lw_lt x y).1 q))
theorem w_icmp_gt (X : Stand p l e R s m args below meth c T locs cells slots) (hx : p.tables.exec = Jvm.exec) {x y : Int32} {o : Int} {pt pf : Nat} (hd : decode c.code pc = .ok (.if_icmp .gt o, 3)) (hf : pc + 3 = pf) (ho : 0 ≤ (pc : Int) + o) (hp : ((pc : Int) + o).toNat = pt)
    (kT : y < x → Go p e below s cm sm Q T (mkF m pt Ls St)) (kF : ¬ (y < x) → Go p e below s cm sm Q T (mkF m pf Ls St)) : Go p e below s cm sm Q T (mkF m pc Ls (.int y :: .int x :: St)) :=
  w_icmp0 X hx hd hf ho hp (fun h => kT (h_gt.1 h)) (fun h => kF (h_gt.2 h))
theorem w_if_gt (X : Stand p l e R s m args below meth c T locs cells slots) (hx : p.tables.exec = Jvm.exec) {x : Int32} {o : Int} {pt pf : Nat} (hd : decode c.code pc = .ok (.ifCond .gt o, 3)) (hf : pc + 3 = pf) (ho : 0 ≤ (pc : Int) + o) (hp : ((pc : Int) + o).toNat = pt)
    (kT : 0 < x → Go p e below s cm sm Q T (mkF m pt Ls St)) (kF : ¬ (0 < x) → Go p e below s cm sm Q T (mkF m pf Ls St)) : Go p e below s cm sm Q T (mkF m pc Ls (.int x :: St)) :=
  w_if0 X hx hd hf ho hp (fun h => kT (h_gt.1 h)) (fun h => kF (h_gt.2 h))
theorem w_ifL_gt (X : Stand p l e R s m args below meth c T locs cells slots) (hx : p.tables.exec = Jvm.exec) {x y : Int64} {o : Int} {pt pf : Nat} (hd : decode c.code pc = .ok (.ifCond .gt o, 3)) (hf : pc + 3 = pf) (ho : 0 ≤ (pc : Int) + o) (hp : ((pc : Int) + o).toNat = pt)
    (kT : y < x → Go p e below s cm sm Q T (mkF m pt Ls St)) (kF : ¬ (y < x) → Go p e below s cm sm Q T (mkF m pf Ls St)) : Go p e below s cm sm Q T (mkF m pc Ls (.int (lcmpW x y) :: St)) :=
  w_if_gt X hx hd hf ho hp (fun q => kT ((lw_gt x y).1 q)) (fun q => kF (fun r => q ((lw_gt x y).2 r)))
theorem w_icmp_le (X : Stand p l e R s m args below meth c T locs cells slots) (hx : p.tables.exec = Jvm.exec) {x y : Int32} {o : Int} {pt pf : Nat} (hd : decode c.code pc = .ok (.if_icmp .le o, 3)) (hf : pc + 3 = pf) (ho : 0 ≤ (pc : Int) + o) (hp : ((pc : Int) + o).toNat = pt)
    (kT : ¬ (y < x) → Go p e below s cm sm Q T (mkF m pt Ls St)) (kF : y < x → Go p e below s cm sm Q T (mkF m pf Ls St)) : Go p e below s cm sm Q T (mkF m pc Ls (.int y :: .int x :: St)) :=
  w_icmp0 X hx hd hf ho hp (fun h => kT (h_le.1 h)) (fun h => kF (h_le.2 h))
theorem w_if_le (X : Stand p l e R s m args below meth c T locs cells slots) (hx : p.tables.exec = Jvm.exec) {x : Int32} {o : Int} {pt pf : Nat} (hd : decode c.code pc = .ok (.ifCond .le o, 3)) (hf : pc + 3 = pf) (ho : 0 ≤ (pc : Int) + o) (hp : ((pc : Int) + o).toNat = pt)
    (kT : ¬ (0 < x) → Go p e below s cm sm Q T (mkF m pt Ls St)) (kF : 0 < x → Go p e below s cm sm Q T (mkF m pf Ls St)) : Go p e below s cm sm Q T (mkF m pc Ls (.int x :: St)) :=
  w_if0 X hx hd hf ho hp (fun h => kT (h_le.1 h)) (fun h => kF (h_le.2 h))
theorem w_ifL_le (X : Stand p l e R s m args below meth c T locs cells slots) (hx : p.tables.exec = Jvm.exec) {x y : Int64} {o : Int} {pt pf : Nat} (hd : decode c.code pc = .ok (.ifCond .le o, 3)) (hf : pc + 3 = pf) (ho : 0 ≤ (pc : Int) + o) (hp : ((pc : Int) + o).toNat = pt)
    (kT : ¬ (y < x) → Go p e below s cm sm Q T (mkF m pt Ls St)) (kF : y < x → Go p e below s cm sm Q T (mkF m pf Ls St)) : Go p e below s cm sm Q T (mkF m pc Ls (.int (lcmpW x y) :: St)) :=
  w_if_le X hx hd hf ho hp (fun q => kT (fun r => q ((lw_gt x y).2 r))) (fun q => kF ((lw_gt x y).1 q))
theorem w_icmp_eq (X : Stand p l e R s m args below meth c T locs cells slots) (hx : p.tables.exec = Jvm.exec) {x y : Int32} {o : Int} {pt pf : Nat} (hd : decode c.code pc = .ok (.if_icmp .eq o, 3)) (hf : pc + 3 = pf) (ho : 0 ≤ (pc : Int) + o) (hp : ((pc : Int) + o).toNat = pt)
    (kT : x = y → Go p e below s cm sm Q T (mkF m pt Ls St)) (kF : ¬ (x = y) → Go p e below s cm sm Q T (mkF m pf Ls St)) : Go p e below s cm sm Q T (mkF m pc Ls (.int y :: .int x :: St)) :=
  w_icmp0 X hx hd hf ho hp (fun h => kT (h_eq.1 h)) (fun h => kF (h_eq.2 h))
theorem w_if_eq (X : Stand p l e R s m args below meth c T locs cells slots) (hx : p.tables.exec = Jvm.exec) {x : Int32} {o : Int} {pt pf : Nat} (hd : decode c.code pc = .ok (.ifCond .eq o, 3)) (hf : pc + 3 = pf) (ho : 0 ≤ (pc : Int) + o) (hp : ((pc : Int) + o).toNat = pt)
    (kT : x = 0 → Go p e below s cm sm Q T (mkF m pt Ls St)) (kF : ¬ (x = 0) → Go p e below s cm sm Q T (mkF m pf Ls St)) : Go p e below s cm sm Q T (mkF m pc Ls (.int x :: St)) :=
  w_if0 X hx hd hf ho hp (fun h => kT (h_eq.1 h)) (fun h => kF (h_eq.2 h))
theorem w_ifL_eq (X : Stand p l e R s m args below meth c T locs cells slots) (hx : p.tables.exec = Jvm.exec) {x y : Int64} {o : Int} {pt pf : Nat} (hd : decode c.code pc = .ok (.ifCond .eq o, 3)) (hf : pc + 3 = pf) (ho : 0 ≤ (pc : Int) + o) (hp : ((pc : Int) + o).toNat = pt)
    (kT : x = y → Go p e below s cm sm Q T (mkF m pt Ls St)) (kF : ¬ (x = y) → Go p e below s cm sm Q T (mkF m pf Ls St)) : Go p e below s cm sm Q T (mkF m pc Ls (.int (lcmpW x y) :: St)) :=
  w_if_eq X hx hd hf ho hp (fun q => kT ((lw_eq x y).1 q)) (fun q => kF (fun r => q ((lw_eq x y).2 r)))
theorem w_icmp_ne (X : Stand p l e R s m args below meth c T locs cells slots) (hx : p.tables.exec = Jvm.exec) {x y : Int32} {o : Int} {pt pf : Nat} (hd : decode c.code pc = .ok (.if_icmp .ne o, 3)) (hf : pc + 3 = pf) (ho : 0 ≤ (pc : Int) + o) (hp : ((pc : Int) + o).toNat = pt)
    (kT : ¬ (x = y) → Go p e below s cm sm Q T (mkF m pt Ls St)) (kF : x = y → Go p e below s cm sm Q T (mkF m pf Ls St)) : Go p e below s cm sm Q T (mkF m pc Ls (.int y :: .int x :: St)) :=
  w_icmp0 X hx hd hf ho hp (fun h => kT (h_ne.1 h)) (fun h => kF (h_ne.2 h))
theorem w_if_ne (X : Stand p l e R s m args below meth c T locs cells slots) (hx : p.tables.exec = Jvm.exec) {x : Int32} {o : Int} {pt pf : Nat} (hd : decode c.code pc = .ok (.ifCond .ne o, 3)) (hf : pc + 3 = pf) (ho : 0 ≤ (pc : Int) + o) (hp : ((pc : Int) + o).toNat = pt)
    (kT : ¬ (x = 0) → Go p e below s cm sm Q T (mkF m pt Ls St)) (kF : x = 0 → Go p e below s cm sm Q T (mkF m pf Ls St)) : Go p e below s cm sm Q T (mkF m pc Ls (.int x :: St)) :=
  w_if0 X hx hd hf ho hp (fun h => kT (h_ne.1 h)) (fun h => kF (h_ne.2 h))
theorem w_ifL_ne (X : Stand p l e R s m args below meth c T locs cells slots) (hx : p.tables.exec = Jvm.exec) {x y : Int64} {o : Int} {pt pf : Nat} (hd : decode c.code pc = .ok (.ifCond .ne o, 3)) (hf : pc + 3 = pf) (ho : 0 ≤ (pc : Int) + o) (hp : ((pc : Int) + o).toNat = pt)
    (kT : ¬ (x = y) → Go p e below s cm sm Q T (mkF m pt Ls St)) (kF : x = y → Go p e below s cm sm Q T (mkF m pf Ls St)) : Go p e below s cm sm Q T (mkF m pc Ls (.int (lcmpW x y) :: St)) :=
  w_if_ne X hx hd hf ho hp (fun q => kT (fun r => q ((lw_eq x y).2 r))) (fun q => kF ((lw_eq x y).1 q))
theorem w_ldc (X : Stand p l e R s m args below meth c T locs cells slots) (hx : p.tables.exec = Jvm.exec) (hZ : Z.Warmed39 s.vm) {own : String} {index : Nat} {v : Int32} (hown : s.vm.findClass own = some m.cls) (w : (Jvm.Cond.constant own index v).before a0 Z = true) (hd : decode c.code pc = .ok (.ldc index, 2)) (hp : pc + 2 = pc')
    (kk : Go p e below s cm sm Q T (mkF m pc' Ls (.int v :: St))) : Go p e below s cm sm Q T (mkF m pc Ls St) := by
  subst hp
  exact Go.st (fun t q => X.ldcInt hx hown (mvT hZ w) (g := mkF m pc Ls St) rfl hd t q) kk
theorem w_ldcw (X : Stand p l e R s m args below meth c T locs cells slots) (hx : p.tables.exec = Jvm.exec) (hZ : Z.Warmed39 s.vm) {own : String} {index : Nat} {v : Int32} (hown : s.vm.findClass own = some m.cls) (w : (Jvm.Cond.constant own index v).before a0 Z = true) (hd : decode c.code pc = .ok (.ldc_w index, 3)) (hp : pc + 3 = pc')
    (kk : Go p e below s cm sm Q T (mkF m pc' Ls (.int v :: St))) : Go p e below s cm sm Q T (mkF m pc Ls St) := by
  subst hp
  exact Go.st (fun t q => X.ldcWI hx hown (mvT hZ w) (g := mkF m pc Ls St) rfl hd q) kk
theorem w_ldc2 (X : Stand p l e R s m args below meth c T locs cells slots) (hx : p.tables.exec = Jvm.exec) (hZ : Z.Warmed39 s.vm) {own : String} {index : Nat} {v : Int64} (hown : s.vm.findClass own = some m.cls) (w : (Jvm.Cond.constantLong own index v).before a0 Z = true) (hd : decode c.code pc = .ok (.ldc2_w index, 3)) (hp : pc + 3 = pc')
    (kk : Go p e below s cm sm Q T (mkF m pc' Ls (.long v :: St))) : Go p e below s cm sm Q T (mkF m pc Ls St) := by
  subst hp
  exact Go.st (fun t q => X.ldc2Long hx hown (mvT hZ w) (g := mkF m pc Ls St) rfl hd t q) kk
theorem w_retZ (X : Stand p l e R s m args below meth c T locs cells slots) (hx : p.tables.exec = Jvm.exec) (hret : meth.sig.returnType = some .boolean) (hlk : meth.locks = false) {z : Int32} (hd : decode c.code pc = .ok (.ireturn, 1)) (hc : cells ≤ cm) (hs : slots ≤ sm) (hQ : Q (some (.int (nar .boolean z))) T.heap locs) : Go p e below s cm sm Q T (mkF m pc Ls (.int z :: St)) := by
  obtain ⟨fs, hr, hrun, hended, hW, hsame⟩ := X.leave (v := some (.int (nar .boolean z))) (fun h => by rw [hret] at h; cases h) hlk
  exact ⟨_, _, retN X hx (t := .boolean) hret (by simp) hd hr, hrun, hended, _, _, rfl, hQ, ⟨_, rfl⟩, hW, hsame.mono hc hs⟩
theorem w_retB (X : Stand p l e R s m args below meth c T locs cells slots) (hx : p.tables.exec = Jvm.exec) (hret : meth.sig.returnType = some .byte) (hlk : meth.locks = false) {z : Int32} (hd : decode c.code pc = .ok (.ireturn, 1)) (hc : cells ≤ cm) (hs : slots ≤ sm) (hQ : Q (some (.int (nar .byte z))) T.heap locs) : Go p e below s cm sm Q T (mkF m pc Ls (.int z :: St)) := by
  obtain ⟨fs, hr, hrun, hended, hW, hsame⟩ := X.leave (v := some (.int (nar .byte z))) (fun h => by rw [hret] at h; cases h) hlk
  exact ⟨_, _, retN X hx (t := .byte) hret (by simp) hd hr, hrun, hended, _, _, rfl, hQ, ⟨_, rfl⟩, hW, hsame.mono hc hs⟩
theorem w_retC (X : Stand p l e R s m args below meth c T locs cells slots) (hx : p.tables.exec = Jvm.exec) (hret : meth.sig.returnType = some .char) (hlk : meth.locks = false) {z : Int32} (hd : decode c.code pc = .ok (.ireturn, 1)) (hc : cells ≤ cm) (hs : slots ≤ sm) (hQ : Q (some (.int (nar .char z))) T.heap locs) : Go p e below s cm sm Q T (mkF m pc Ls (.int z :: St)) := by
  obtain ⟨fs, hr, hrun, hended, hW, hsame⟩ := X.leave (v := some (.int (nar .char z))) (fun h => by rw [hret] at h; cases h) hlk
  exact ⟨_, _, retN X hx (t := .char) hret (by simp) hd hr, hrun, hended, _, _, rfl, hQ, ⟨_, rfl⟩, hW, hsame.mono hc hs⟩
theorem w_retS (X : Stand p l e R s m args below meth c T locs cells slots) (hx : p.tables.exec = Jvm.exec) (hret : meth.sig.returnType = some .short) (hlk : meth.locks = false) {z : Int32} (hd : decode c.code pc = .ok (.ireturn, 1)) (hc : cells ≤ cm) (hs : slots ≤ sm) (hQ : Q (some (.int (nar .short z))) T.heap locs) : Go p e below s cm sm Q T (mkF m pc Ls (.int z :: St)) := by
  obtain ⟨fs, hr, hrun, hended, hW, hsame⟩ := X.leave (v := some (.int (nar .short z))) (fun h => by rw [hret] at h; cases h) hlk
  exact ⟨_, _, retN X hx (t := .short) hret (by simp) hd hr, hrun, hended, _, _, rfl, hQ, ⟨_, rfl⟩, hW, hsame.mono hc hs⟩
theorem w_retI (X : Stand p l e R s m args below meth c T locs cells slots) (hx : p.tables.exec = Jvm.exec) (hret : meth.sig.returnType = some .int) (hlk : meth.locks = false) {z : Int32} (hd : decode c.code pc = .ok (.ireturn, 1)) (hc : cells ≤ cm) (hs : slots ≤ sm) (hQ : Q (some (.int z)) T.heap locs) : Go p e below s cm sm Q T (mkF m pc Ls (.int z :: St)) := by
  obtain ⟨fs, hr, hrun, hended, hW, hsame⟩ := X.leave (v := some (.int z)) (fun h => by rw [hret] at h; cases h) hlk
  refine ⟨T.setFrames fs, _, ?_, hrun, hended, _, _, rfl, hQ, ⟨_, rfl⟩, hW, hsame.mono hc hs⟩
  have hm' : T.vm.method? m = some meth := X.method'
  have hn : narrow .int (.int z) = .int z := rfl
  show Steps p.tables e below (T.setTop { method := m, pc := pc, locals := Ls, stack := .int z :: St, locked := none }) _
  jvm_step X.here [X.here.top, hx, hd, hm', hret, hn]
  first | (intro acts; rw [hr _ acts rfl rfl rfl]) | rw [hr _ _ rfl rfl rfl]
  exact Steps.refl _
theorem w_retJ (X : Stand p l e R s m args below meth c T locs cells slots) (hx : p.tables.exec = Jvm.exec) (hret : meth.sig.returnType = some .long) (hlk : meth.locks = false) {z : Int64} (hd : decode c.code pc = .ok (.lreturn, 1)) (hc : cells ≤ cm) (hs : slots ≤ sm) (hQ : Q (some (.long z)) T.heap locs) : Go p e below s cm sm Q T (mkF m pc Ls [.long z]) := by
  obtain ⟨fs, hr, hrun, hended, hW, hsame⟩ := X.leave (v := some (.long z)) (fun h => by rw [hret] at h; cases h) hlk
  exact ⟨T.setFrames fs, _, X.lreturnOut hx hret hd hr, hrun, hended, _, _, rfl, hQ, ⟨_, rfl⟩, hW, hsame.mono hc hs⟩
theorem w_retV (X : Stand p l e R s m args below meth c T locs cells slots) (hx : p.tables.exec = Jvm.exec) (hret : meth.sig.returnType = none) (hlk : meth.locks = false) (hd : decode c.code pc = .ok (.return_, 1)) (hc : cells ≤ cm) (hs : slots ≤ sm) (hQ : Q none T.heap locs) : Go p e below s cm sm Q T (mkF m pc Ls []) := by
  obtain ⟨fs, hr, hrun, hended, hW, hsame⟩ := X.leave (v := none) (fun _ => rfl) hlk
  exact ⟨T.setFrames fs, _, X.returnOut hx hret hd hr, hrun, hended, _, _, rfl, hQ, ⟨_, rfl⟩, hW, hsame.mono hc hs⟩
theorem w_retA (X : Stand p l e R s m args below meth c T locs cells slots) (hx : p.tables.exec = Jvm.exec) {rt : FieldType} (hret : meth.sig.returnType = some rt) (hrt : rt.isReference = true) (hlk : meth.locks = false) {a : Addr} (hd : decode c.code pc = .ok (.areturn, 1)) (hc : cells ≤ cm) (hs : slots ≤ sm) (hQ : Q (some (.ref a)) T.heap locs) : Go p e below s cm sm Q T (mkF m pc Ls (.ref a :: St)) := by
  obtain ⟨fs, hr, hrun, hended, hW, hsame⟩ := X.leave (v := some (.ref a)) (fun h => by rw [hret] at h; cases h) hlk
  refine ⟨T.setFrames fs, _, ?_, hrun, hended, _, _, rfl, hQ, ⟨_, rfl⟩, hW, hsame.mono hc hs⟩
  have hm' : T.vm.method? m = some meth := X.method'
  show Steps p.tables e below (T.setTop { method := m, pc := pc, locals := Ls, stack := .ref a :: St, locked := none }) _
  jvm_step X.here [X.here.top, hx, hd, hm', hret, Value.isRef, hrt]
  first | (intro acts; rw [hr _ acts rfl rfl rfl]) | rw [hr _ _ rfl rfl rfl]
  exact Steps.refl _
theorem Con.back {y : MethodName} {bytes : ByteArray} {maxL : Nat} {ret : Option FieldType} {rm : Room} {len W : Nat} {as' : Array Value} {Qc : Option Value → Heap → List Loc → Prop} (C : Con l Z y bytes maxL ret rm as' h Qc) (hZ : Z.Warmed39 s.vm) (wc : (Jvm.Cond.code y bytes maxL ret).before a0 Z = true) (wz : (Jvm.Cond.initialized y.cls).before a0 Z = true) (hf : rm.frames + 1 ≤ R.frames) (hl : W + (maxL + 11) + rm.locals ≤ R.locals) :
    Back l R p e below s args y len W (fun A a => a = as' ∧ A.U.heap = h ∧ A.cells + rm.cells ≤ R.cells ∧ A.slots + rm.slots ≤ R.slots) (fun A _ v B => ∃ L, Qc v B.U.heap L ∧ B.locs = A.locs ++ L ∧ B.cells = A.cells + rm.cells ∧ B.slots = A.slots + rm.slots) :=
  backOf (C []) hZ wc wz hf hl
theorem w_callS (X : Stand p l e R s m args below meth c T locs cells slots) (hx : p.tables.exec = Jvm.exec) (hZ : Z.Warmed39 s.vm) {own : String} {index : Nat} {y : MethodName} {bytes : ByteArray} {maxL : Nat} {ret : Option FieldType} {rm : Room} {W : Nat} {argsL rest : List Value} {Qc : Option Value → Heap → List Loc → Prop} (hown : s.vm.findClass own = some m.cls) (eT : T.heap = h) (C : Con l Z y bytes maxL ret rm argsL.toArray h Qc) (w1 : (Jvm.Cond.methodLink own index y).before a0 Z = true) (w2 : (Jvm.Cond.static y).before a0 Z = true) (w3 : (Jvm.Cond.initialized y.cls).before a0 Z = true) (w4 : (Jvm.Cond.code y bytes maxL ret).before a0 Z = true) (hy : y.cls ≠ "java/lang/invoke/MethodHandle" ∧ y.cls ≠ "java/lang/invoke/VarHandle")
    (hf : rm.frames + 1 ≤ R.frames) (hl : W + (maxL + 11) + rm.locals ≤ R.locals) (hc : cells + rm.cells ≤ R.cells) (hs : slots + rm.slots ≤ R.slots) (hsz : Ls.size = c.maxLocals) (hlen : ∀ sig, parseMethodDescriptor y.desc = some sig → argsL.length = sig.parameters.length) (hW : (rest.map fun v => v.category).sum ≤ W) (hst : St = argsL.reverse ++ rest) (hd : decode c.code pc = .ok (.invokestatic index, 3)) (hp : pc + 3 = pc')
    (kk : ∀ (T' : State) (L : List Loc) (v : Option Value), Stand p l e R s m args below meth c T' (locs ++ L) (cells + rm.cells) (slots + rm.slots) → Qc v T'.heap L → Go p e below s cm sm Q T' (mkF m pc' Ls (v.toList ++ rest))) : Go p e below s cm sm Q T (mkF m pc Ls St) := by
  subst hp hst
  obtain ⟨v, _, ⟨T1, L1, k1, n1⟩, -, X1, ⟨Lc, hQ, l1, y1, z1⟩, st⟩ := Jvm.LawKit.callS X hx (y := y) hown (mvT hZ w1) (mvT hZ w2) (mvT hZ w3) (mvT hZ w4) hy (C.back (W := W) hZ w4 w3 hf hl) (g := mkF m pc Ls (argsL.reverse ++ rest)) rfl hsz (argsL := argsL) (rest := rest) hlen rfl (by show 2 * 0 + _ ≤ _; rw [Nat.mul_zero, Nat.zero_add]; exact hW) hd (fun _ _ => ⟨rfl, eT, hc, hs⟩)
  dsimp only [Pt.U, Pt.locs, Pt.cells, Pt.slots] at X1 l1 y1 z1 st hQ
  subst l1 y1 z1
  exact Go.st st (kk _ _ _ X1 hQ)
theorem w_callI (X : Stand p l e R s m args below meth c T locs cells slots) (hx : p.tables.exec = Jvm.exec) (hZ : Z.Warmed39 s.vm) {own : String} {index : Nat} {y : MethodName} {bytes : ByteArray} {maxL : Nat} {rm : Room} {W : Nat} {argsL rest : List Value} {Qc : Option Value → Heap → List Loc → Prop} {a : Addr} (hown : s.vm.findClass own = some m.cls) (eT : T.heap = h) (C : Con l Z y bytes maxL none rm (.ref a :: argsL).toArray h Qc) (hn : y.name = "<init>") (w1 : (Jvm.Cond.methodLink own index y).before a0 Z = true) (w2 : (Jvm.Cond.instanceMethod y).before a0 Z = true) (w3 : (Jvm.Cond.initialized y.cls).before a0 Z = true) (w4 : (Jvm.Cond.code y bytes maxL none).before a0 Z = true) (hy : y.cls ≠ "java/lang/invoke/MethodHandle" ∧ y.cls ≠ "java/lang/invoke/VarHandle")
    (hf : rm.frames + 1 ≤ R.frames) (hl : W + (maxL + 11) + rm.locals ≤ R.locals) (hc : cells + rm.cells ≤ R.cells) (hs : slots + rm.slots ≤ R.slots) (hsz : Ls.size = c.maxLocals) (hlen : ∀ sig, parseMethodDescriptor y.desc = some sig → argsL.length = sig.parameters.length) (hW : (rest.map fun v => v.category).sum ≤ W) (hst : St = argsL.reverse ++ .ref a :: rest) (hd : decode c.code pc = .ok (.invokespecial index, 3)) (hp : pc + 3 = pc')
    (kk : ∀ (T' : State) (L : List Loc) (v : Option Value), Stand p l e R s m args below meth c T' (locs ++ L) (cells + rm.cells) (slots + rm.slots) → Qc v T'.heap L → Go p e below s cm sm Q T' (mkF m pc' Ls (v.toList ++ rest))) : Go p e below s cm sm Q T (mkF m pc Ls St) := by
  subst hp hst
  obtain ⟨v, _, ⟨T1, L1, k1, n1⟩, -, X1, ⟨Lc, hQ, l1, y1, z1⟩, st⟩ := X.specialBack hx (y := y) hn hown (mvT hZ w1) (mvT hZ w2) (mvT hZ w4) hy (C.back (W := W) hZ w4 w3 hf hl) (g := mkF m pc Ls (argsL.reverse ++ .ref a :: rest)) rfl hsz (Steps.refl _) (a := a) (argsL := argsL) (rest := rest) hlen rfl (by show 2 * 0 + _ ≤ _; rw [Nat.mul_zero, Nat.zero_add]; exact hW) hd (fun _ _ => ⟨rfl, eT, hc, hs⟩)
  dsimp only [Pt.U, Pt.locs, Pt.cells, Pt.slots] at X1 l1 y1 z1 st hQ
  subst l1 y1 z1
  exact Go.st (fun t q => st.trans q) (kk _ _ _ X1 hQ)
theorem w_callV (X : Stand p l e R s m args below meth c T locs cells slots) (hx : p.tables.exec = Jvm.exec) (hZ : Z.Warmed39 s.vm) {own : String} {index : Nat} {y : MethodName} {bytes : ByteArray} {maxL : Nat} {ret : Option FieldType} {rm : Room} {W : Nat} {argsL rest : List Value} {Qc : Option Value → Heap → List Loc → Prop} {a : Addr} (hown : s.vm.findClass own = some m.cls) (eT : T.heap = h) (E : Exa Z h a y.cls) (C : Con l Z y bytes maxL ret rm (.ref a :: argsL).toArray h Qc) (w1 : (Jvm.Cond.methodLink own index y).before a0 Z = true) (wd : (Jvm.Cond.declares y).before a0 Z = true) (ws : (Jvm.Cond.selects y.cls y y).before a0 Z = true) (w2 : (Jvm.Cond.instanceMethod y).before a0 Z = true) (w3 : (Jvm.Cond.initialized y.cls).before a0 Z = true) (w4 : (Jvm.Cond.code y bytes maxL ret).before a0 Z = true) (hy : y.cls ≠ "java/lang/invoke/MethodHandle" ∧ y.cls ≠ "java/lang/invoke/VarHandle")
    (hf : rm.frames + 1 ≤ R.frames) (hl : W + (maxL + 11) + rm.locals ≤ R.locals) (hc : cells + rm.cells ≤ R.cells) (hs : slots + rm.slots ≤ R.slots) (hsz : Ls.size = c.maxLocals) (hlen : ∀ sig, parseMethodDescriptor y.desc = some sig → argsL.length = sig.parameters.length) (hW : (rest.map fun v => v.category).sum ≤ W) (hst : St = argsL.reverse ++ .ref a :: rest) (hd : decode c.code pc = .ok (.invokevirtual index, 3)) (hp : pc + 3 = pc')
    (kk : ∀ (T' : State) (L : List Loc) (v : Option Value), Stand p l e R s m args below meth c T' (locs ++ L) (cells + rm.cells) (slots + rm.slots) → Qc v T'.heap L → Go p e below s cm sm Q T' (mkF m pc' Ls (v.toList ++ rest))) : Go p e below s cm sm Q T (mkF m pc Ls St) := by
  subst hp hst
  obtain ⟨cq, kq, qa, qb, qc⟩ := isOf hZ eT E
  obtain ⟨v, _, ⟨T1, L1, k1, n1⟩, -, X1, ⟨Lc, hQ, l1, y1, z1⟩, st⟩ := X.virtualBack hx (y := y) (z := y) hown (mvT hZ w1) (mvT hZ wd) (notFace_of_selects (args := #[]) (mvT hZ ws)) (mvT hZ ws) (mvT hZ w2) hy (C.back (W := W) hZ w4 w3 hf hl) qa qc (g := mkF m pc Ls (argsL.reverse ++ .ref a :: rest)) rfl hsz (Steps.refl _) (argsL := argsL) (rest := rest) hlen rfl (by show 2 * 0 + _ ≤ _; rw [Nat.mul_zero, Nat.zero_add]; exact hW) hd (fun _ _ => ⟨rfl, eT, hc, hs⟩)
  dsimp only [Pt.U, Pt.locs, Pt.cells, Pt.slots] at X1 l1 y1 z1 st hQ
  subst l1 y1 z1
  exact Go.st (fun t q => st.trans q) (kk _ _ _ X1 hQ)
theorem w_initO (X : Stand p l e R s m args below meth c T locs cells slots) (hx : p.tables.exec = Jvm.exec) (hZ : Z.Warmed39 s.vm) {own : String} {index : Nat} {a : Addr} (hown : s.vm.findClass own = some m.cls) (eT : T.heap = h) (w1 : (Jvm.Cond.methodLink own index Lib.objectInit).before a0 Z = true) (w2 : (Jvm.Cond.instanceMethod Lib.objectInit).before a0 Z = true) (w3 : (Jvm.Cond.code Lib.objectInit ⟨#[0xb1]⟩ 1 none).before a0 Z = true) (hsz : Ls.size = c.maxLocals) (hd : decode c.code pc = .ok (.invokespecial index, 3)) (hf : 1 ≤ R.frames) {W : Nat} (hW : (St.map fun v => v.category).sum ≤ W) (hl : W + 12 ≤ R.locals) (hp : pc + 3 = pc')
    (kk : ∀ T' : State, Stand p l e R s m args below meth c T' locs cells slots → T'.heap = h → Go p e below s cm sm Q T' (mkF m pc' Ls St)) : Go p e below s cm sm Q T (mkF m pc Ls (.ref a :: St)) := by
  subst hp
  obtain ⟨T1, X1, e1, st⟩ := initO X hx hZ hown w1 w2 w3 eT (g := mkF m pc Ls (.ref a :: St)) rfl hsz rfl hd hf (W := W) (by show 2 * 0 + _ ≤ _; rw [Nat.mul_zero, Nat.zero_add]; exact hW) hl
  exact Go.st st (kk _ X1 e1)
theorem w_getF (X : Stand p l e R s m args below meth c T locs cells slots) (hx : p.tables.exec = Jvm.exec) (hZ : Z.Warmed39 s.vm) {own O n d : String} {index : Nat} {a : Addr} {v : Value} (hown : s.vm.findClass own = some m.cls) (eT : T.heap = h) (F : Fld Z h a O n d v) (w : (Jvm.Cond.fieldLink own index O n d).before a0 Z = true) (hd : decode c.code pc = .ok (.getfield index, 3)) (hp : pc + 3 = pc')
    (kk : ∀ T' : State, Stand p l e R s m args below meth c T' locs cells slots → T'.heap = h → Go p e below s cm sm Q T' (mkF m pc' Ls (v :: St))) : Go p e below s cm sm Q T (mkF m pc Ls (.ref a :: St)) := by
  subst hp
  obtain ⟨T1, X1, e1, st⟩ := getF X hx hZ hown (host := "") (Or.inl w) Via.refl eT F (g := mkF m pc Ls (.ref a :: St)) rfl rfl hd
  exact Go.st st (kk _ X1 e1)
theorem w_putF (X : Stand p l e R s m args below meth c T locs cells slots) (hx : p.tables.exec = Jvm.exec) (hZ : Z.Warmed39 s.vm) {own O n d C : String} {index kn : Nat} {ty : FieldType} {a : Addr} {v old : Value} (hown : s.vm.findClass own = some m.cls) (eT : T.heap = h) (F : Fld Z h a O n d old) (E : Exa Z h a C) (w : (Jvm.Cond.fieldLink own index O n d).before a0 Z = true) (L : (Jvm.Cond.lays C O n d).before a0 Z = true ∨ ((Jvm.Cond.laysFinal C O n d).before a0 Z = true ∧ own = O ∧ meth.name = "<init>")) (wi : (Jvm.Cond.instantiable C kn).before a0 Z = true) (hty : parseFieldDescriptor d = some ty) (hn : narrow ty v = v) (hf : fits ty v = true) (hd : decode c.code pc = .ok (.putfield index, 3)) (hp : pc + 3 = pc')
    (kk : ∀ (T' : State) (h' : Heap), Stand p l e R s m args below meth c T' (locs ++ [⟨a, RoadKit.slotOf Z O n d⟩]) cells slots → T'.heap = h' → Wr h h' a (RoadKit.slotOf Z O n d) v → Go p e below s cm sm Q T' (mkF m pc' Ls St)) : Go p e below s cm sm Q T (mkF m pc Ls (v :: .ref a :: St)) := by
  subst hp
  obtain ⟨T1, h1, X1, e1, W1, st⟩ := putF X hx hZ hown (host := "") (Or.inl w) Via.refl eT F E L wi hty hn hf (g := mkF m pc Ls (v :: .ref a :: St)) rfl rfl hd
  exact Go.st st (kk _ _ X1 e1 W1)
theorem w_newO (X : Stand p l e R s m args below meth c T locs cells slots) (hx : p.tables.exec = Jvm.exec) (hZ : Z.Warmed39 s.vm) {own C : String} {index kn : Nat} (hown : s.vm.findClass own = some m.cls) (eT : T.heap = h) (w : (Jvm.Cond.classLink own index C).before a0 Z = true) (wi : (Jvm.Cond.instantiable C kn).before a0 Z = true) (wz : (Jvm.Cond.initialized C).before a0 Z = true) (hd : decode c.code pc = .ok (.new index, 3)) (hc : cells + 1 ≤ R.cells) (hl : slots + kn ≤ R.slots) (hp : pc + 3 = pc')
    (kk : ∀ (T' : State) (h' : Heap) (b : Addr), Stand p l e R s m args below meth c T' locs (cells + 1) (slots + kn) → T'.heap = h' → Ext h h' → b = h.size → Exa Z h' b C → (∀ {O nm d : String} {ty : FieldType}, Laid Z a0 C O nm d → parseFieldDescriptor d = some ty → Fld Z h' b O nm d (defaultValue ty)) → Go p e below s cm sm Q T' (mkF m pc' Ls (.ref b :: St))) : Go p e below s cm sm Q T (mkF m pc Ls St) := by
  subst hp
  obtain ⟨T1, h1, X1, e1, E1, A1, D1, -, st⟩ := newO X hx hZ hown w wi wz eT (g := mkF m pc Ls St) rfl hd hc hl
  exact Go.st st (kk _ _ _ X1 e1 E1 rfl A1 D1)
/-- an array of ints, bytes, chars, shorts or booleans, by its list -/
def AI (Z : State) (h : Heap) (a : Addr) (ty : FieldType) (vs : List Int32) : Prop := ∃ c : Cell, Arr Z h a c ty ∧ c.slots.toList = vs.map Value.int ∧ vs.length < 2147483648
/-- an array of longs, by its list -/
def AJ (Z : State) (h : Heap) (a : Addr) (vs : List Int64) : Prop := ∃ c : Cell, Arr Z h a c .long ∧ c.slots.toList = vs.map Value.long ∧ vs.length < 2147483648
theorem AI.lt {a : Addr} {ty : FieldType} {vs : List Int32} (F : AI Z h a ty vs) : a < h.size := by obtain ⟨c, q, -⟩ := F; exact q.lt
theorem AI.ext {a : Addr} {ty : FieldType} {vs : List Int32} (F : AI Z h a ty vs) (E : Ext h h') : AI Z h' a ty vs := by obtain ⟨c, q, r⟩ := F; exact ⟨c, q.ext E, r⟩
theorem AI.other {a b : Addr} {ty : FieldType} {vs : List Int32} {sl : Nat} {v : Value} (F : AI Z h a ty vs) (W : Wr h h' b sl v) (q : a ≠ b) : AI Z h' a ty vs := by obtain ⟨c, A, r⟩ := F; exact ⟨c, A.other W q, r⟩
theorem AI.keep {a : Addr} {ty : FieldType} {vs : List Int32} {ws : List Addr} (F : AI Z h a ty vs) (K : Keep h h' ws) (q : a ∉ ws) : AI Z h' a ty vs := by obtain ⟨c, A, r⟩ := F; exact ⟨c, ⟨K.2.1 a c A.1 q, A.2⟩, r⟩
theorem AI.new {a : Addr} {k : ClassId} {z : Int32} {ty : FieldType} (A : Arr Z h a (newA k ty z) ty) (hd : defaultValue ty = .int 0) : AI Z h a ty (List.replicate z.toNatClampNeg 0) := by
  refine ⟨_, A, ?_, ?_⟩
  · simp [newA, hd]
  · have := z.toInt_lt; rw [List.length_replicate]; show z.toInt.toNat < _; omega
theorem AI.wr {a : Addr} {ty : FieldType} {vs : List Int32} {j : Nat} {x : Int32} (F : AI Z h a ty vs) (W : Wr h h' a j (Value.int x)) : AI Z h' a ty (vs.set j x) := by
  obtain ⟨c, A, q, r⟩ := F
  refine ⟨_, A.same W, ?_, by simpa using r⟩
  simp [Cell.setSlot, q, List.map_set]
theorem AI.len {a : Addr} {ty : FieldType} {vs : List Int32} (F : AI Z h a ty vs) : vs.length < 2147483648 := by obtain ⟨c, q, r, t⟩ := F; exact t
theorem AI.sz {vs : List Int32} {c : Cell} (q : c.slots.toList = vs.map Value.int) : c.slots.size = vs.length := by
  have := congrArg List.length q; simpa using this
theorem AI.at {vs : List Int32} {c : Cell} {j : Nat} {x : Int32} (q : c.slots.toList = vs.map Value.int) (hv : vs[j]? = some x) : c.slots[j]? = some (Value.int x) := by
  rw [← Array.getElem?_toList, q]; simp [hv]
theorem AI.inb {vs : List Int32} {c : Cell} {j : Int32} (q : c.slots.toList = vs.map Value.int) (hj : ¬ j < 0) (hl : j.toNatClampNeg < vs.length) : ¬ (j < 0 ∨ c.slots.size ≤ j.toNatClampNeg) := by
  have := AI.sz q
  rw [this]
  rintro (r | r)
  · exact hj r
  · omega
theorem AJ.lt {a : Addr} {vs : List Int64} (F : AJ Z h a vs) : a < h.size := by obtain ⟨c, q, -⟩ := F; exact q.lt
theorem AJ.ext {a : Addr} {vs : List Int64} (F : AJ Z h a vs) (E : Ext h h') : AJ Z h' a vs := by obtain ⟨c, q, r⟩ := F; exact ⟨c, q.ext E, r⟩
theorem AJ.other {a b : Addr} {vs : List Int64} {sl : Nat} {v : Value} (F : AJ Z h a vs) (W : Wr h h' b sl v) (q : a ≠ b) : AJ Z h' a vs := by obtain ⟨c, A, r⟩ := F; exact ⟨c, A.other W q, r⟩
theorem AJ.keep {a : Addr} {vs : List Int64} {ws : List Addr} (F : AJ Z h a vs) (K : Keep h h' ws) (q : a ∉ ws) : AJ Z h' a vs := by obtain ⟨c, A, r⟩ := F; exact ⟨c, ⟨K.2.1 a c A.1 q, A.2⟩, r⟩
theorem AJ.new {a : Addr} {k : ClassId} {z : Int32} (A : Arr Z h a (newA k .long z) .long) : AJ Z h a (List.replicate z.toNatClampNeg 0) := by
  refine ⟨_, A, ?_, ?_⟩
  · simp [newA, defaultValue]
  · have := z.toInt_lt; rw [List.length_replicate]; show z.toInt.toNat < _; omega
theorem AJ.wr {a : Addr} {vs : List Int64} {j : Nat} {x : Int64} (F : AJ Z h a vs) (W : Wr h h' a j (Value.long x)) : AJ Z h' a (vs.set j x) := by
  obtain ⟨c, A, q, r⟩ := F
  refine ⟨_, A.same W, ?_, by simpa using r⟩
  simp [Cell.setSlot, q, List.map_set]
theorem AJ.len {a : Addr} {vs : List Int64} (F : AJ Z h a vs) : vs.length < 2147483648 := by obtain ⟨c, q, r, t⟩ := F; exact t
theorem AJ.sz {vs : List Int64} {c : Cell} (q : c.slots.toList = vs.map Value.long) : c.slots.size = vs.length := by
  have := congrArg List.length q; simpa using this
theorem AJ.at {vs : List Int64} {c : Cell} {j : Nat} {x : Int64} (q : c.slots.toList = vs.map Value.long) (hv : vs[j]? = some x) : c.slots[j]? = some (Value.long x) := by
  rw [← Array.getElem?_toList, q]; simp [hv]
theorem AJ.inb {vs : List Int64} {c : Cell} {j : Int32} (q : c.slots.toList = vs.map Value.long) (hj : ¬ j < 0) (hl : j.toNatClampNeg < vs.length) : ¬ (j < 0 ∨ c.slots.size ≤ j.toNatClampNeg) := by
  have := AJ.sz q
  rw [this]
  rintro (r | r)
  · exact hj r
  · omega
theorem w_iaload (X : Stand p l e R s m args below meth c T locs cells slots) (hx : p.tables.exec = Jvm.exec) (hZ : Z.Warmed39 s.vm) {a : Addr} {vs : List Int32} {j : Int32} {v : Int32} (eT : T.heap = h) (F : AI Z h a .int vs) (hj : ¬ j < 0) (hv : vs[j.toNatClampNeg]? = some v) (hd : decode c.code pc = .ok (.iaload, 1)) (hp : pc + 1 = pc')
    (kk : Go p e below s cm sm Q T (mkF m pc' Ls (Value.int v :: St))) : Go p e below s cm sm Q T (mkF m pc Ls (.int j :: .ref a :: St)) := by
  subst hp
  obtain ⟨cl, A, q, r⟩ := F
  exact Go.st (fun t k => X.iaload hx (j := j) (v := Value.int v) (by rw [eT]; exact A.1) (State.isArrayOf_alike hZ.alike A.2.1) A.2.2 (AI.inb q hj (List.getElem?_eq_some_iff.mp hv).1) (AI.at q hv) (g := mkF m pc Ls (.int j :: .ref a :: St)) rfl rfl hd t k) kk
theorem w_baload (X : Stand p l e R s m args below meth c T locs cells slots) (hx : p.tables.exec = Jvm.exec) (hZ : Z.Warmed39 s.vm) {a : Addr} {vs : List Int32} {j : Int32} {v : Int32} (eT : T.heap = h) (F : AI Z h a .byte vs) (hj : ¬ j < 0) (hv : vs[j.toNatClampNeg]? = some v) (hd : decode c.code pc = .ok (.baload, 1)) (hp : pc + 1 = pc')
    (kk : Go p e below s cm sm Q T (mkF m pc' Ls (Value.int v :: St))) : Go p e below s cm sm Q T (mkF m pc Ls (.int j :: .ref a :: St)) := by
  subst hp
  obtain ⟨cl, A, q, r⟩ := F
  exact Go.st (fun t k => X.baloadBytes hx (j := j) (v := Value.int v) (by rw [eT]; exact A.1) (State.isArrayOf_alike hZ.alike A.2.1) A.2.2 (AI.inb q hj (List.getElem?_eq_some_iff.mp hv).1) (AI.at q hv) (g := mkF m pc Ls (.int j :: .ref a :: St)) rfl rfl hd t k) kk
theorem w_laload (X : Stand p l e R s m args below meth c T locs cells slots) (hx : p.tables.exec = Jvm.exec) (hZ : Z.Warmed39 s.vm) {a : Addr} {vs : List Int64} {j : Int32} {v : Int64} (eT : T.heap = h) (F : AJ Z h a vs) (hj : ¬ j < 0) (hv : vs[j.toNatClampNeg]? = some v) (hd : decode c.code pc = .ok (.laload, 1)) (hp : pc + 1 = pc')
    (kk : Go p e below s cm sm Q T (mkF m pc' Ls (Value.long v :: St))) : Go p e below s cm sm Q T (mkF m pc Ls (.int j :: .ref a :: St)) := by
  subst hp
  obtain ⟨cl, A, q, r⟩ := F
  exact Go.st (fun t k => X.laload hx (j := j) (v := Value.long v) (by rw [eT]; exact A.1) (State.isArrayOf_alike hZ.alike A.2.1) A.2.2 (AJ.inb q hj (List.getElem?_eq_some_iff.mp hv).1) (AJ.at q hv) (g := mkF m pc Ls (.int j :: .ref a :: St)) rfl rfl hd t k) kk
theorem w_iastore (X : Stand p l e R s m args below meth c T locs cells slots) (hx : p.tables.exec = Jvm.exec) (hZ : Z.Warmed39 s.vm) {a : Addr} {vs : List Int32} {j : Int32} {x : Int32} (eT : T.heap = h) (F : AI Z h a .int vs) (hj : ¬ j < 0) (hl : j.toNatClampNeg < vs.length) (hd : decode c.code pc = .ok (.iastore, 1)) (hp : pc + 1 = pc')
    (kk : ∀ (T' : State) (h' : Heap), Stand p l e R s m args below meth c T' (locs ++ [⟨a, j.toNatClampNeg⟩]) cells slots → T'.heap = h' → Wr h h' a j.toNatClampNeg (Value.int x) → AI Z h' a .int (vs.set j.toNatClampNeg x) → Go p e below s cm sm Q T' (mkF m pc' Ls St)) : Go p e below s cm sm Q T (mkF m pc Ls (Value.int x :: .int j :: .ref a :: St)) := by
  subst hp
  obtain ⟨cl, A, q, r⟩ := F
  obtain ⟨T1, h1, X1, e1, W1, st⟩ := RoadKit.stI X hx hZ eT A (j := j) (x := x) (AI.inb q hj hl) (g := mkF m pc Ls (Value.int x :: .int j :: .ref a :: St)) rfl rfl hd
  exact Go.st st (kk _ _ X1 e1 W1 (AI.wr ⟨cl, A, q, r⟩ W1))
theorem w_bastore (X : Stand p l e R s m args below meth c T locs cells slots) (hx : p.tables.exec = Jvm.exec) (hZ : Z.Warmed39 s.vm) {a : Addr} {vs : List Int32} {j : Int32} {x : Int32} (eT : T.heap = h) (F : AI Z h a .byte vs) (hj : ¬ j < 0) (hl : j.toNatClampNeg < vs.length) (hd : decode c.code pc = .ok (.bastore, 1)) (hp : pc + 1 = pc')
    (kk : ∀ (T' : State) (h' : Heap), Stand p l e R s m args below meth c T' (locs ++ [⟨a, j.toNatClampNeg⟩]) cells slots → T'.heap = h' → Wr h h' a j.toNatClampNeg (Value.int (nar .byte x)) → AI Z h' a .byte (vs.set j.toNatClampNeg (nar .byte x)) → Go p e below s cm sm Q T' (mkF m pc' Ls St)) : Go p e below s cm sm Q T (mkF m pc Ls (Value.int x :: .int j :: .ref a :: St)) := by
  subst hp
  obtain ⟨cl, A, q, r⟩ := F
  obtain ⟨T1, h1, X1, e1, W1, st⟩ := RoadKit.stB X hx hZ eT A (j := j) (x := x) (AI.inb q hj hl) (g := mkF m pc Ls (Value.int x :: .int j :: .ref a :: St)) rfl rfl hd
  exact Go.st st (kk _ _ X1 e1 W1 (AI.wr ⟨cl, A, q, r⟩ W1))
theorem w_lastore (X : Stand p l e R s m args below meth c T locs cells slots) (hx : p.tables.exec = Jvm.exec) (hZ : Z.Warmed39 s.vm) {a : Addr} {vs : List Int64} {j : Int32} {x : Int64} (eT : T.heap = h) (F : AJ Z h a vs) (hj : ¬ j < 0) (hl : j.toNatClampNeg < vs.length) (hd : decode c.code pc = .ok (.lastore, 1)) (hp : pc + 1 = pc')
    (kk : ∀ (T' : State) (h' : Heap), Stand p l e R s m args below meth c T' (locs ++ [⟨a, j.toNatClampNeg⟩]) cells slots → T'.heap = h' → Wr h h' a j.toNatClampNeg (Value.long x) → AJ Z h' a (vs.set j.toNatClampNeg x) → Go p e below s cm sm Q T' (mkF m pc' Ls St)) : Go p e below s cm sm Q T (mkF m pc Ls (Value.long x :: .int j :: .ref a :: St)) := by
  subst hp
  obtain ⟨cl, A, q, r⟩ := F
  obtain ⟨T1, h1, X1, e1, W1, st⟩ := RoadKit.stJ X hx hZ eT A (j := j) (x := x) (AJ.inb q hj hl) (g := mkF m pc Ls (Value.long x :: .int j :: .ref a :: St)) rfl rfl hd
  exact Go.st st (kk _ _ X1 e1 W1 (AJ.wr ⟨cl, A, q, r⟩ W1))
theorem w_alenI (X : Stand p l e R s m args below meth c T locs cells slots) (hx : p.tables.exec = Jvm.exec) (hZ : Z.Warmed39 s.vm) {a : Addr} {ty : FieldType} {vs : List Int32} {n : Int32} (eT : T.heap = h) (F : AI Z h a ty vs) (hn : vs.length.toInt32 = n) (hd : decode c.code pc = .ok (.arraylength, 1)) (hp : pc + 1 = pc')
    (kk : Go p e below s cm sm Q T (mkF m pc' Ls (.int n :: St))) : Go p e below s cm sm Q T (mkF m pc Ls (.ref a :: St)) := by
  subst hp hn
  obtain ⟨cl, A, q, r⟩ := F
  have hs := AI.sz q
  exact Go.st (fun t k => X.arraylength hx (by rw [eT]; exact A.1) (State.isArrayOf_alike hZ.alike A.2.1) (g := mkF m pc Ls (.ref a :: St)) rfl rfl hd t (by rw [hs]; exact k)) kk
theorem w_alenJ (X : Stand p l e R s m args below meth c T locs cells slots) (hx : p.tables.exec = Jvm.exec) (hZ : Z.Warmed39 s.vm) {a : Addr} {vs : List Int64} {n : Int32} (eT : T.heap = h) (F : AJ Z h a vs) (hn : vs.length.toInt32 = n) (hd : decode c.code pc = .ok (.arraylength, 1)) (hp : pc + 1 = pc')
    (kk : Go p e below s cm sm Q T (mkF m pc' Ls (.int n :: St))) : Go p e below s cm sm Q T (mkF m pc Ls (.ref a :: St)) := by
  subst hp hn
  obtain ⟨cl, A, q, r⟩ := F
  have hs := AJ.sz q
  exact Go.st (fun t k => X.arraylength hx (by rw [eT]; exact A.1) (State.isArrayOf_alike hZ.alike A.2.1) (g := mkF m pc Ls (.ref a :: St)) rfl rfl hd t (by rw [hs]; exact k)) kk
theorem w_newI (X : Stand p l e R s m args below meth c T locs cells slots) (hx : p.tables.exec = Jvm.exec) (hZ : Z.Warmed39 s.vm) {n : Int32} {cap : Nat} (eT : T.heap = h) (w : (Jvm.Cond.arrayClass .int).before a0 Z = true) (hn : ¬ n < 0) (hcap : n.toNatClampNeg ≤ cap) (hb : cap * 8 ≤ 536870912) (hc : cells + 1 ≤ R.cells) (hl : slots + cap ≤ R.slots) (hd : decode c.code pc = .ok (.newarray .int, 2)) (hp : pc + 2 = pc')
    (kk : ∀ (T' : State) (h' : Heap) (b : Addr), Stand p l e R s m args below meth c T' locs (cells + 1) (slots + cap) → T'.heap = h' → Ext h h' → b = h.size → AI Z h' b .int (List.replicate n.toNatClampNeg 0) → Go p e below s cm sm Q T' (mkF m pc' Ls (.ref b :: St))) : Go p e below s cm sm Q T (mkF m pc Ls (.int n :: St)) := by
  subst hp
  obtain ⟨T1, h1, k1, X1, e1, E1, A1, st⟩ := newP X hx hZ (aty := .int) w eT (g := mkF m pc Ls (.int n :: St)) rfl hd rfl hn (cap := cap) hcap hb hc hl
  exact Go.st st (kk _ _ _ X1 e1 E1 rfl (AI.new A1 rfl))
theorem w_newB (X : Stand p l e R s m args below meth c T locs cells slots) (hx : p.tables.exec = Jvm.exec) (hZ : Z.Warmed39 s.vm) {n : Int32} {cap : Nat} (eT : T.heap = h) (w : (Jvm.Cond.arrayClass .byte).before a0 Z = true) (hn : ¬ n < 0) (hcap : n.toNatClampNeg ≤ cap) (hb : cap * 8 ≤ 536870912) (hc : cells + 1 ≤ R.cells) (hl : slots + cap ≤ R.slots) (hd : decode c.code pc = .ok (.newarray .byte, 2)) (hp : pc + 2 = pc')
    (kk : ∀ (T' : State) (h' : Heap) (b : Addr), Stand p l e R s m args below meth c T' locs (cells + 1) (slots + cap) → T'.heap = h' → Ext h h' → b = h.size → AI Z h' b .byte (List.replicate n.toNatClampNeg 0) → Go p e below s cm sm Q T' (mkF m pc' Ls (.ref b :: St))) : Go p e below s cm sm Q T (mkF m pc Ls (.int n :: St)) := by
  subst hp
  obtain ⟨T1, h1, k1, X1, e1, E1, A1, st⟩ := newP X hx hZ (aty := .byte) w eT (g := mkF m pc Ls (.int n :: St)) rfl hd rfl hn (cap := cap) hcap hb hc hl
  exact Go.st st (kk _ _ _ X1 e1 E1 rfl (AI.new A1 rfl))
theorem w_newJ (X : Stand p l e R s m args below meth c T locs cells slots) (hx : p.tables.exec = Jvm.exec) (hZ : Z.Warmed39 s.vm) {n : Int32} {cap : Nat} (eT : T.heap = h) (w : (Jvm.Cond.arrayClass .long).before a0 Z = true) (hn : ¬ n < 0) (hcap : n.toNatClampNeg ≤ cap) (hb : cap * 8 ≤ 536870912) (hc : cells + 1 ≤ R.cells) (hl : slots + cap ≤ R.slots) (hd : decode c.code pc = .ok (.newarray .long, 2)) (hp : pc + 2 = pc')
    (kk : ∀ (T' : State) (h' : Heap) (b : Addr), Stand p l e R s m args below meth c T' locs (cells + 1) (slots + cap) → T'.heap = h' → Ext h h' → b = h.size → AJ Z h' b (List.replicate n.toNatClampNeg 0) → Go p e below s cm sm Q T' (mkF m pc' Ls (.ref b :: St))) : Go p e below s cm sm Q T (mkF m pc Ls (.int n :: St)) := by
  subst hp
  obtain ⟨T1, h1, k1, X1, e1, E1, A1, st⟩ := newP X hx hZ (aty := .long) w eT (g := mkF m pc Ls (.int n :: St)) rfl hd rfl hn (cap := cap) hcap hb hc hl
  exact Go.st st (kk _ _ _ X1 e1 E1 rfl (AJ.new A1))
theorem w_callP (X : Stand p l e R s m args below meth c T locs cells slots) (hx : p.tables.exec = Jvm.exec) (hZ : Z.Warmed39 s.vm) {own : String} {index : Nat} {y : MethodName} {bytes : ByteArray} {maxL : Nat} {ret : Option FieldType} {rm : Room} {W : Nat} {argsL rest : List Value} {Qc : Option Value → Heap → List Loc → Prop} {a : Addr} (hown : s.vm.findClass own = some m.cls) (eT : T.heap = h) (E : Exa Z h a y.cls) (C : Con l Z y bytes maxL ret rm (.ref a :: argsL).toArray h Qc) (w1 : (Jvm.Cond.methodLink own index y).before a0 Z = true) (w2 : (Jvm.Cond.instanceMethod y).before a0 Z = true) (ws : (Jvm.Cond.selects y.cls y y).before a0 Z = true) (wp : (Jvm.Cond.privateMethod y).before a0 Z = true) (w3 : (Jvm.Cond.initialized y.cls).before a0 Z = true) (w4 : (Jvm.Cond.code y bytes maxL ret).before a0 Z = true) (hy : y.cls ≠ "java/lang/invoke/MethodHandle" ∧ y.cls ≠ "java/lang/invoke/VarHandle")
    (hf : rm.frames + 1 ≤ R.frames) (hl : W + (maxL + 11) + rm.locals ≤ R.locals) (hc : cells + rm.cells ≤ R.cells) (hs : slots + rm.slots ≤ R.slots) (hsz : Ls.size = c.maxLocals) (hlen : ∀ sig, parseMethodDescriptor y.desc = some sig → argsL.length = sig.parameters.length) (hW : (rest.map fun v => v.category).sum ≤ W) (hst : St = argsL.reverse ++ .ref a :: rest) (hd : decode c.code pc = .ok (.invokevirtual index, 3)) (hp : pc + 3 = pc')
    (kk : ∀ (T' : State) (L : List Loc) (v : Option Value), Stand p l e R s m args below meth c T' (locs ++ L) (cells + rm.cells) (slots + rm.slots) → Qc v T'.heap L → Go p e below s cm sm Q T' (mkF m pc' Ls (v.toList ++ rest))) : Go p e below s cm sm Q T (mkF m pc Ls St) := by
  subst hp hst
  obtain ⟨cq, q1, q2⟩ := E.cell
  obtain ⟨v, _, ⟨T1, L1, k1, n1⟩, -, X1, ⟨Lc, hQ, l1, y1, z1⟩, st⟩ := X.privateBack hx (y := y) hown (mvT hZ w1) (mvT hZ w2) (mvT hZ ws) (Cond.privateMethod_at (mvP hZ wp (args := #[]))) (mvT hZ w4) hy (C.back (W := W) hZ w4 w3 hf hl) (g := mkF m pc Ls (argsL.reverse ++ .ref a :: rest)) rfl hsz (Steps.refl _) (a := a) (by rw [eT]; exact q1) q2 (argsL := argsL) (rest := rest) hlen rfl (by show 2 * 0 + _ ≤ _; rw [Nat.mul_zero, Nat.zero_add]; exact hW) hd (fun _ _ => ⟨rfl, eT, hc, hs⟩)
  dsimp only [Pt.U, Pt.locs, Pt.cells, Pt.slots] at X1 l1 y1 z1 st hQ
  subst l1 y1 z1
  exact Go.st (fun t q => st.trans q) (kk _ _ _ X1 hQ)
theorem w_ifnullNo (X : Stand p l e R s m args below meth c T locs cells slots) (hx : p.tables.exec = Jvm.exec) {o : Int} {b : Addr} (hd : decode c.code pc = .ok (.ifnull o, 3)) (hp : pc + 3 = pc') (kk : Go p e below s cm sm Q T (mkF m pc' Ls St)) : Go p e below s cm sm Q T (mkF m pc Ls (.ref b :: St)) := by
  subst hp
  exact Go.st (fun t q => XS.ifnullNo (g := mkF m pc Ls (.ref b :: St)) X.here hx rfl hd rfl q) kk
theorem own_len {n k : Nat} (h : n < 2147483648) (hk : k < 2147483648) (hc : ¬ n.toInt32 < k.toInt32) : k ≤ n := by
  rw [Int32.lt_iff_toInt_lt, len_toInt h, len_toInt hk] at hc
  omega
theorem own_len' {n k : Nat} (h : n < 2147483648) (hk : k < 2147483648) (hc : n.toInt32 < k.toInt32) : n < k := by
  rw [Int32.lt_iff_toInt_lt, len_toInt h, len_toInt hk] at hc
  omega
theorem own_getD {α : Type} {vs : List α} {j : Nat} {d : α} (h : j < vs.length) : vs[j]? = some (vs.getD j d) := by simp [h]
theorem own_nar0 : nar .boolean 0 = 0 := by decide
theorem own_nar1 : nar .boolean 1 = 1 := by decide
theorem w_up {c' s' : Nat} (X : Stand p l e R s m args below meth c T locs cells slots) (h1 : cells ≤ c') (h2 : slots ≤ s') : Stand p l e R s m args below meth c T locs c' s' :=
  ⟨X.admits, X.cas, X.clock, X.frames, X.room, X.hears, X.method, X.code, X.here, X.tail, X.warmed, X.limits, X.bytes, X.same.mono h1 h2⟩
end OwnKit
theorem pd_0 : parseMethodDescriptor "(I)B" = some ⟨[.int], some .byte⟩ := by decide +kernel
theorem pd_1 : parseMethodDescriptor "(II)I" = some ⟨[.int, .int], some .int⟩ := by decide +kernel
theorem pd_2 : parseMethodDescriptor "([BIIIZ)Z" = some ⟨[(.array .byte), .int, .int, .int, .boolean], some .boolean⟩ := by decide +kernel
theorem pd_3 : parseMethodDescriptor "([BIIZ)Z" = some ⟨[(.array .byte), .int, .int, .boolean], some .boolean⟩ := by decide +kernel
theorem d1_0 : decode method_3_code 0 = .ok (.iload_n 0, 1) := by decide +kernel
theorem d1_1 : decode method_3_code 1 = .ok (.iconst 3, 1) := by decide +kernel
theorem d1_2 : decode method_3_code 2 = .ok (.iand, 1) := by decide +kernel
theorem d1_3 : decode method_3_code 3 = .ok (.istore_n 1, 1) := by decide +kernel
theorem d1_4 : decode method_3_code 4 = .ok (.iload_n 1, 1) := by decide +kernel
theorem d1_5 : decode method_3_code 5 = .ok (.ifCond .ne 6, 3) := by decide +kernel
theorem d1_8 : decode method_3_code 8 = .ok (.bipush 32, 2) := by decide +kernel
theorem d1_10 : decode method_3_code 10 = .ok (.ireturn, 1) := by decide +kernel
theorem d1_11 : decode method_3_code 11 = .ok (.iload_n 1, 1) := by decide +kernel
theorem d1_12 : decode method_3_code 12 = .ok (.iconst 1, 1) := by decide +kernel
theorem d1_13 : decode method_3_code 13 = .ok (.if_icmp .ne 6, 3) := by decide +kernel
theorem d1_16 : decode method_3_code 16 = .ok (.bipush 9, 2) := by decide +kernel
theorem d1_18 : decode method_3_code 18 = .ok (.ireturn, 1) := by decide +kernel
theorem d1_19 : decode method_3_code 19 = .ok (.iload_n 1, 1) := by decide +kernel
theorem d1_20 : decode method_3_code 20 = .ok (.iconst 2, 1) := by decide +kernel
theorem d1_21 : decode method_3_code 21 = .ok (.if_icmp .ne 6, 3) := by decide +kernel
theorem d1_24 : decode method_3_code 24 = .ok (.bipush 13, 2) := by decide +kernel
theorem d1_26 : decode method_3_code 26 = .ok (.ireturn, 1) := by decide +kernel
theorem d1_27 : decode method_3_code 27 = .ok (.iload_n 0, 1) := by decide +kernel
theorem d1_28 : decode method_3_code 28 = .ok (.iconst 2, 1) := by decide +kernel
theorem d1_29 : decode method_3_code 29 = .ok (.iushr, 1) := by decide +kernel
theorem d1_30 : decode method_3_code 30 = .ok (.i2b, 1) := by decide +kernel
theorem d1_31 : decode method_3_code 31 = .ok (.ireturn, 1) := by decide +kernel
def K1_0 (x0 : Int32) : Int32 :=
  (if (x0 &&& (3 : Int32)) = (0 : Int32) then (32 : Int32)
  else (if (x0 &&& (3 : Int32)) = (1 : Int32) then (9 : Int32)
   else (if (x0 &&& (3 : Int32)) = (2 : Int32) then (13 : Int32)
    else (nar .byte (jushr x0 (2 : Int32)).toInt8.toInt32))))
set_option maxRecDepth 65536 in
set_option maxHeartbeats 4000000 in
theorem bk1_0 {p : Program} {l : Launch} {e : Env} {s : State} {m : MethodId} {args : Array Value} {below : List Frame} {meth : Method} {c : Code} {T : State} {locs : List Loc} {Z : State} {a0 : Array Value} {h0 : Heap} {n0 : Nat} (X : Stand p l e ({ frames := 0, cells := 0, slots := 0, locals := 0 } : Room) s m args below meth c T locs 0 0) (hx : p.tables.exec = Jvm.exec) (hZ : Z.Warmed39 s.vm) (hw : ∀ d ∈ tables_1, d.before a0 Z = true) (hby : c.code = method_3_code) (hml : c.maxLocals = 2) (hown : s.vm.findClass "com/example/feldtafel/feldtafel/LinesIsBlankPinLaw" = some m.cls) (hret : meth.sig.returnType = (some .byte)) (hlk : meth.locks = false) (e0 : T.heap = h0) (N0 : Fr n0 locs) (x0 : Int32) :
    Go p e below s 0 0 (QP (some (.int (K1_0 x0))) h0 n0) T (mkF m 0 #[.val (.int x0), .unset] []) := by
  rw [K1_0]
  refine w_iloadN X hx (hb hby d1_0) (pc' := 1) rfl rfl ?_
  refine w_iconst (v := 3) X hx (hb hby d1_1) (pc' := 2) rfl rfl ?_
  refine w_iand X hx (hb hby d1_2) (pc' := 3) rfl ?_
  refine w_istoreN (Ls' := #[.val (.int x0), .val (.int (x0 &&& (3 : Int32)))]) X hx (hb hby d1_3) (pc' := 4) rfl rfl ?_
  refine w_iloadN X hx (hb hby d1_4) (pc' := 5) rfl rfl ?_
  refine w_if_ne X hx (hb hby d1_5) (pf := 8) (pt := 11) rfl (by decide) (by decide) (fun hc5 => ?_) (fun hc5 => ?_)
  · rw [if_neg hc5]
    refine w_iloadN X hx (hb hby d1_11) (pc' := 12) rfl rfl ?_
    refine w_iconst (v := 1) X hx (hb hby d1_12) (pc' := 13) rfl rfl ?_
    refine w_icmp_ne X hx (hb hby d1_13) (pf := 16) (pt := 19) rfl (by decide) (by decide) (fun hc13 => ?_) (fun hc13 => ?_)
    · rw [if_neg hc13]
      refine w_iloadN X hx (hb hby d1_19) (pc' := 20) rfl rfl ?_
      refine w_iconst (v := 2) X hx (hb hby d1_20) (pc' := 21) rfl rfl ?_
      refine w_icmp_ne X hx (hb hby d1_21) (pf := 24) (pt := 27) rfl (by decide) (by decide) (fun hc21 => ?_) (fun hc21 => ?_)
      · rw [if_neg hc21]
        refine w_iloadN X hx (hb hby d1_27) (pc' := 28) rfl rfl ?_
        refine w_iconst (v := 2) X hx (hb hby d1_28) (pc' := 29) rfl rfl ?_
        refine w_iushr X hx (hb hby d1_29) (pc' := 30) rfl ?_
        refine w_i2b X hx (hb hby d1_30) (pc' := 31) rfl ?_
        exact w_retB X hx hret hlk (hb hby d1_31) (by decide) (by decide) ⟨rfl, N0, e0⟩
      · rw [if_pos hc21]
        refine w_bipush (v := 13) X hx (hb hby d1_24) (pc' := 26) rfl rfl ?_
        exact w_retB X hx hret hlk (hb hby d1_26) (by decide) (by decide) ⟨rfl, N0, e0⟩
    · rw [if_pos hc13]
      refine w_bipush (v := 9) X hx (hb hby d1_16) (pc' := 18) rfl rfl ?_
      exact w_retB X hx hret hlk (hb hby d1_18) (by decide) (by decide) ⟨rfl, N0, e0⟩
  · rw [if_pos hc5]
    refine w_bipush (v := 32) X hx (hb hby d1_8) (pc' := 10) rfl rfl ?_
    exact w_retB X hx hret hlk (hb hby d1_10) (by decide) (by decide) ⟨rfl, N0, e0⟩
theorem ef_1 (m : MethodId) (x0 : Int32) : entryFrame m #[(.int x0)] 2 = mkF m 0 #[.val (.int x0), .unset] [] := by first | (simp [entryFrame, mkF, argsToLocals, Value.category]; done) | rfl
theorem rm1 (l : Launch) (Z : State) (a0 : Array Value) (hw : ∀ d ∈ tables_1, d.before a0 Z = true) (x0 : Int32) (h0 : Heap) (n0 : Nat) :
    Con l Z (⟨"com/example/feldtafel/feldtafel/LinesIsBlankPinLaw", "pick", "(I)B"⟩ : MethodName) method_3_code 2 (some .byte) ({ frames := 0, cells := 0, slots := 0, locals := 0 } : Room) #[(.int x0)] h0 (QP (some (.int (K1_0 x0))) h0 n0) := by
  refine Con.of (plainFor_of_name (by first | (simp [plainName, overriddenIn]; done) | decide +kernel)) ?_
  intro p e s m below meth c T X hx hZ hby hml hown hnm hret hlk e0
  rw [ef_1]
  exact bk1_0 X hx hZ hw hby hml hown hret hlk e0 (Fr.nil n0) x0
theorem d2_0 : decode jdk_29_method_69_code 0 = .ok (.iload_n 0, 1) := by decide +kernel
theorem d2_1 : decode jdk_29_method_69_code 1 = .ok (.iload_n 1, 1) := by decide +kernel
theorem d2_2 : decode jdk_29_method_69_code 2 = .ok (.if_icmp .gt 7, 3) := by decide +kernel
theorem d2_5 : decode jdk_29_method_69_code 5 = .ok (.iload_n 0, 1) := by decide +kernel
theorem d2_6 : decode jdk_29_method_69_code 6 = .ok (.goto 4, 3) := by decide +kernel
theorem d2_9 : decode jdk_29_method_69_code 9 = .ok (.iload_n 1, 1) := by decide +kernel
theorem d2_10 : decode jdk_29_method_69_code 10 = .ok (.ireturn, 1) := by decide +kernel
def K2_0 (x0 : Int32) (x1 : Int32) : Int32 :=
  (if x1 < x0 then x1
  else x0)
set_option maxRecDepth 65536 in
set_option maxHeartbeats 4000000 in
theorem bk2_0 {p : Program} {l : Launch} {e : Env} {s : State} {m : MethodId} {args : Array Value} {below : List Frame} {meth : Method} {c : Code} {T : State} {locs : List Loc} {Z : State} {a0 : Array Value} {h0 : Heap} {n0 : Nat} (X : Stand p l e ({ frames := 0, cells := 0, slots := 0, locals := 0 } : Room) s m args below meth c T locs 0 0) (hx : p.tables.exec = Jvm.exec) (hZ : Z.Warmed39 s.vm) (hw : ∀ d ∈ tables_1, d.before a0 Z = true) (hby : c.code = jdk_29_method_69_code) (hml : c.maxLocals = 2) (hown : s.vm.findClass "java/lang/Math" = some m.cls) (hret : meth.sig.returnType = (some .int)) (hlk : meth.locks = false) (e0 : T.heap = h0) (N0 : Fr n0 locs) (x0 : Int32) (x1 : Int32) :
    Go p e below s 0 0 (QP (some (.int (K2_0 x0 x1))) h0 n0) T (mkF m 0 #[.val (.int x0), .val (.int x1)] []) := by
  rw [K2_0]
  refine w_iloadN X hx (hb hby d2_0) (pc' := 1) rfl rfl ?_
  refine w_iloadN X hx (hb hby d2_1) (pc' := 2) rfl rfl ?_
  refine w_icmp_gt X hx (hb hby d2_2) (pf := 5) (pt := 9) rfl (by decide) (by decide) (fun hc2 => ?_) (fun hc2 => ?_)
  · rw [if_pos hc2]
    refine w_iloadN X hx (hb hby d2_9) (pc' := 10) rfl rfl ?_
    exact w_retI X hx hret hlk (hb hby d2_10) (by decide) (by decide) ⟨rfl, N0, e0⟩
  · rw [if_neg hc2]
    refine w_iloadN X hx (hb hby d2_5) (pc' := 6) rfl rfl ?_
    refine w_goto X hx (hb hby d2_6) (pc' := 10) (by decide) (by decide) ?_
    exact w_retI X hx hret hlk (hb hby d2_10) (by decide) (by decide) ⟨rfl, N0, e0⟩
theorem ef_2 (m : MethodId) (x0 : Int32) (x1 : Int32) : entryFrame m #[(.int x0), (.int x1)] 2 = mkF m 0 #[.val (.int x0), .val (.int x1)] [] := by first | (simp [entryFrame, mkF, argsToLocals, Value.category]; done) | rfl
theorem rm2 (l : Launch) (Z : State) (a0 : Array Value) (hw : ∀ d ∈ tables_1, d.before a0 Z = true) (x0 : Int32) (x1 : Int32) (h0 : Heap) (n0 : Nat) :
    Con l Z (⟨"java/lang/Math", "min", "(II)I"⟩ : MethodName) jdk_29_method_69_code 2 (some .int) ({ frames := 0, cells := 0, slots := 0, locals := 0 } : Room) #[(.int x0), (.int x1)] h0 (QP (some (.int (K2_0 x0 x1))) h0 n0) := by
  refine Con.of (Jvm.Free.JP.mathPlain rfl (by decide +kernel)) ?_
  intro p e s m below meth c T X hx hZ hby hml hown hnm hret hlk e0
  rw [ef_2]
  exact bk2_0 X hx hZ hw hby hml hown hret hlk e0 (Fr.nil n0) x0 x1
theorem d3_0 : decode jdk_29_method_65_code 0 = .ok (.iload_n 0, 1) := by decide +kernel
theorem d3_1 : decode jdk_29_method_65_code 1 = .ok (.iload_n 1, 1) := by decide +kernel
theorem d3_2 : decode jdk_29_method_65_code 2 = .ok (.if_icmp .lt 7, 3) := by decide +kernel
theorem d3_5 : decode jdk_29_method_65_code 5 = .ok (.iload_n 0, 1) := by decide +kernel
theorem d3_6 : decode jdk_29_method_65_code 6 = .ok (.goto 4, 3) := by decide +kernel
theorem d3_9 : decode jdk_29_method_65_code 9 = .ok (.iload_n 1, 1) := by decide +kernel
theorem d3_10 : decode jdk_29_method_65_code 10 = .ok (.ireturn, 1) := by decide +kernel
def K3_0 (x0 : Int32) (x1 : Int32) : Int32 :=
  (if x0 < x1 then x1
  else x0)
set_option maxRecDepth 65536 in
set_option maxHeartbeats 4000000 in
theorem bk3_0 {p : Program} {l : Launch} {e : Env} {s : State} {m : MethodId} {args : Array Value} {below : List Frame} {meth : Method} {c : Code} {T : State} {locs : List Loc} {Z : State} {a0 : Array Value} {h0 : Heap} {n0 : Nat} (X : Stand p l e ({ frames := 0, cells := 0, slots := 0, locals := 0 } : Room) s m args below meth c T locs 0 0) (hx : p.tables.exec = Jvm.exec) (hZ : Z.Warmed39 s.vm) (hw : ∀ d ∈ tables_1, d.before a0 Z = true) (hby : c.code = jdk_29_method_65_code) (hml : c.maxLocals = 2) (hown : s.vm.findClass "java/lang/Math" = some m.cls) (hret : meth.sig.returnType = (some .int)) (hlk : meth.locks = false) (e0 : T.heap = h0) (N0 : Fr n0 locs) (x0 : Int32) (x1 : Int32) :
    Go p e below s 0 0 (QP (some (.int (K3_0 x0 x1))) h0 n0) T (mkF m 0 #[.val (.int x0), .val (.int x1)] []) := by
  rw [K3_0]
  refine w_iloadN X hx (hb hby d3_0) (pc' := 1) rfl rfl ?_
  refine w_iloadN X hx (hb hby d3_1) (pc' := 2) rfl rfl ?_
  refine w_icmp_lt X hx (hb hby d3_2) (pf := 5) (pt := 9) rfl (by decide) (by decide) (fun hc2 => ?_) (fun hc2 => ?_)
  · rw [if_pos hc2]
    refine w_iloadN X hx (hb hby d3_9) (pc' := 10) rfl rfl ?_
    exact w_retI X hx hret hlk (hb hby d3_10) (by decide) (by decide) ⟨rfl, N0, e0⟩
  · rw [if_neg hc2]
    refine w_iloadN X hx (hb hby d3_5) (pc' := 6) rfl rfl ?_
    refine w_goto X hx (hb hby d3_6) (pc' := 10) (by decide) (by decide) ?_
    exact w_retI X hx hret hlk (hb hby d3_10) (by decide) (by decide) ⟨rfl, N0, e0⟩
theorem ef_3 (m : MethodId) (x0 : Int32) (x1 : Int32) : entryFrame m #[(.int x0), (.int x1)] 2 = mkF m 0 #[.val (.int x0), .val (.int x1)] [] := by first | (simp [entryFrame, mkF, argsToLocals, Value.category]; done) | rfl
theorem rm3 (l : Launch) (Z : State) (a0 : Array Value) (hw : ∀ d ∈ tables_1, d.before a0 Z = true) (x0 : Int32) (x1 : Int32) (h0 : Heap) (n0 : Nat) :
    Con l Z (⟨"java/lang/Math", "max", "(II)I"⟩ : MethodName) jdk_29_method_65_code 2 (some .int) ({ frames := 0, cells := 0, slots := 0, locals := 0 } : Room) #[(.int x0), (.int x1)] h0 (QP (some (.int (K3_0 x0 x1))) h0 n0) := by
  refine Con.of (Jvm.Free.JP.mathPlain rfl (by decide +kernel)) ?_
  intro p e s m below meth c T X hx hZ hby hml hown hnm hret hlk e0
  rw [ef_3]
  exact bk3_0 X hx hZ hw hby hml hown hret hlk e0 (Fr.nil n0) x0 x1
theorem own_m (x m : Int32) {k : Nat} (hk : k < 32) (hm : m.toBitVec.toNat = 2 ^ k - 1) : 0 ≤ (x &&& m).toInt ∧ (x &&& m).toInt < 2 ^ k := by
  rw [Jvm.Kit.i32_mask x m hk hm]
  exact ⟨Int.emod_nonneg _ (by have : (0 : Int) < 2 ^ k := Int.pow_pos (by decide); omega), Int.emod_lt_of_pos _ (Int.pow_pos (by decide))⟩
theorem own_one : (1 : Int32).toInt = 1 := by decide
theorem own_zero : (0 : Int32).toInt = 0 := by decide
theorem own_toInt {x y : Int32} (h : x.toInt = y.toInt) : x = y := Int32.toInt_inj.mp h
theorem own_and1 (x : Int32) : x &&& 1 = 0 ∨ x &&& 1 = 1 := and_one x
theorem own_and3 (x : Int32) : x &&& 3 = 0 ∨ x &&& 3 = 1 ∨ x &&& 3 = 2 ∨ x &&& 3 = 3 := by
  obtain ⟨h1, h2⟩ := own_m x 3 (k := 2) (by decide) (by decide)
  have e1 : (1 : Int32).toInt = 1 := by decide
  have e2 : (2 : Int32).toInt = 2 := by decide
  have e3 : (3 : Int32).toInt = 3 := by decide
  have e0 : (0 : Int32).toInt = 0 := by decide
  have : (x &&& 3).toInt = 0 ∨ (x &&& 3).toInt = 1 ∨ (x &&& 3).toInt = 2 ∨ (x &&& 3).toInt = 3 := by omega
  rcases this with h | h | h | h
  · exact Or.inl (own_toInt (h.trans e0.symm))
  · exact Or.inr (Or.inl (own_toInt (h.trans e1.symm)))
  · exact Or.inr (Or.inr (Or.inl (own_toInt (h.trans e2.symm))))
  · exact Or.inr (Or.inr (Or.inr (own_toInt (h.trans e3.symm))))
theorem own_b01 {c : Prop} [Decidable c] {v : Int32} (h : v = if c then 0 else 1) : v = 0 ∨ v = 1 := by subst h; split <;> simp
theorem own_b10 {c : Prop} [Decidable c] {v : Int32} (h : v = if c then 1 else 0) : v = 0 ∨ v = 1 := by subst h; split <;> simp
theorem own_i {n : Nat} (h : n < 2147483648) : (n.toInt32).toInt = n := len_toInt h
theorem own_nat {n : Nat} (h : n < 2147483648) : n.toInt32.toNatClampNeg = n := by
  show n.toInt32.toInt.toNat = n
  rw [own_i h]; rfl
theorem own_nneg {n : Nat} (h : n < 2147483648) : ¬ n.toInt32 < 0 := by
  rw [Int32.lt_iff_toInt_lt, own_i h, own_zero]; omega
theorem own_ilt {a b : Nat} (ha : a < 2147483648) (hb : b < 2147483648) : (a.toInt32 < b.toInt32) ↔ a < b := by
  rw [Int32.lt_iff_toInt_lt, own_i ha, own_i hb]; omega
theorem own_ieq {a b : Nat} (ha : a < 2147483648) (hb : b < 2147483648) : (a.toInt32 = b.toInt32) ↔ a = b := by
  rw [← Int32.toInt_inj, own_i ha, own_i hb]; omega
theorem own_iinc {n : Nat} (h : n + 1 < 2147483648) : n.toInt32 + 1 = (n + 1).toInt32 := by
  apply own_toInt
  rw [Jvm.Kit.i32_add (by rw [own_i (by omega), own_one]; omega) (by rw [own_i (by omega), own_one]; omega), own_i (by omega), own_i h, own_one]
  omega
theorem own_idec {n : Nat} (h : n + 1 < 2147483648) : (n + 1).toInt32 - 1 = n.toInt32 := by
  apply own_toInt
  rw [Jvm.Kit.i32_sub (by rw [own_i h, own_one]; omega) (by rw [own_i h, own_one]; omega), own_i h, own_i (by omega), own_one]
  omega
theorem d4_0 : decode method_4_code 0 = .ok (.iload_n 1, 1) := by decide +kernel
theorem d4_1 : decode method_4_code 1 = .ok (.iload_n 2, 1) := by decide +kernel
theorem d4_2 : decode method_4_code 2 = .ok (.if_icmp .lt 8, 3) := by decide +kernel
theorem d4_5 : decode method_4_code 5 = .ok (.iload_n 1, 1) := by decide +kernel
theorem d4_6 : decode method_4_code 6 = .ok (.iload_n 3, 1) := by decide +kernel
theorem d4_7 : decode method_4_code 7 = .ok (.if_icmp .lt 5, 3) := by decide +kernel
theorem d4_10 : decode method_4_code 10 = .ok (.iconst 1, 1) := by decide +kernel
theorem d4_11 : decode method_4_code 11 = .ok (.ireturn, 1) := by decide +kernel
theorem d4_12 : decode method_4_code 12 = .ok (.aload_n 0, 1) := by decide +kernel
theorem d4_13 : decode method_4_code 13 = .ok (.iload_n 1, 1) := by decide +kernel
theorem d4_14 : decode method_4_code 14 = .ok (.baload, 1) := by decide +kernel
theorem d4_15 : decode method_4_code 15 = .ok (.bipush 32, 2) := by decide +kernel
theorem d4_17 : decode method_4_code 17 = .ok (.if_icmp .eq 11, 3) := by decide +kernel
theorem d4_20 : decode method_4_code 20 = .ok (.aload_n 0, 1) := by decide +kernel
theorem d4_21 : decode method_4_code 21 = .ok (.iload_n 1, 1) := by decide +kernel
theorem d4_22 : decode method_4_code 22 = .ok (.baload, 1) := by decide +kernel
theorem d4_23 : decode method_4_code 23 = .ok (.bipush 9, 2) := by decide +kernel
theorem d4_25 : decode method_4_code 25 = .ok (.if_icmp .ne 5, 3) := by decide +kernel
theorem d4_28 : decode method_4_code 28 = .ok (.iconst 1, 1) := by decide +kernel
theorem d4_29 : decode method_4_code 29 = .ok (.ireturn, 1) := by decide +kernel
theorem d4_30 : decode method_4_code 30 = .ok (.iload 4, 2) := by decide +kernel
theorem d4_32 : decode method_4_code 32 = .ok (.ifCond .eq 22, 3) := by decide +kernel
theorem d4_35 : decode method_4_code 35 = .ok (.iload_n 1, 1) := by decide +kernel
theorem d4_36 : decode method_4_code 36 = .ok (.iload_n 3, 1) := by decide +kernel
theorem d4_37 : decode method_4_code 37 = .ok (.iconst 1, 1) := by decide +kernel
theorem d4_38 : decode method_4_code 38 = .ok (.isub, 1) := by decide +kernel
theorem d4_39 : decode method_4_code 39 = .ok (.if_icmp .ne 15, 3) := by decide +kernel
theorem d4_42 : decode method_4_code 42 = .ok (.aload_n 0, 1) := by decide +kernel
theorem d4_43 : decode method_4_code 43 = .ok (.iload_n 1, 1) := by decide +kernel
theorem d4_44 : decode method_4_code 44 = .ok (.baload, 1) := by decide +kernel
theorem d4_45 : decode method_4_code 45 = .ok (.bipush 13, 2) := by decide +kernel
theorem d4_47 : decode method_4_code 47 = .ok (.if_icmp .ne 7, 3) := by decide +kernel
theorem d4_50 : decode method_4_code 50 = .ok (.iconst 1, 1) := by decide +kernel
theorem d4_51 : decode method_4_code 51 = .ok (.goto 4, 3) := by decide +kernel
theorem d4_54 : decode method_4_code 54 = .ok (.iconst 0, 1) := by decide +kernel
theorem d4_55 : decode method_4_code 55 = .ok (.ireturn, 1) := by decide +kernel
def K4_0 (vs : List Int32) (x1 : Int32) (x2 : Int32) (x3 : Int32) (x4 : Int32) : Int32 :=
  (if x1 < x2 then (1 : Int32)
  else (if x1 < x3 then (if (vs.getD (x1).toNatClampNeg 0) = (32 : Int32) then (1 : Int32)
    else (if (vs.getD (x1).toNatClampNeg 0) = (9 : Int32) then (1 : Int32)
     else (if x4 = (0 : Int32) then (0 : Int32)
      else (if x1 = (x3 - (1 : Int32)) then (if (vs.getD (x1).toNatClampNeg 0) = (13 : Int32) then (1 : Int32)
        else (0 : Int32))
       else (0 : Int32)))))
   else (1 : Int32)))
set_option maxRecDepth 65536 in
set_option maxHeartbeats 4000000 in
theorem bk4_0 {p : Program} {l : Launch} {e : Env} {s : State} {m : MethodId} {args : Array Value} {below : List Frame} {meth : Method} {c : Code} {T : State} {locs : List Loc} {Z : State} {a0 : Array Value} {h0 : Heap} {n0 : Nat} {ar : Addr} {vs : List Int32} (X : Stand p l e ({ frames := 0, cells := 0, slots := 0, locals := 0 } : Room) s m args below meth c T locs 0 0) (hx : p.tables.exec = Jvm.exec) (hZ : Z.Warmed39 s.vm) (hw : ∀ d ∈ tables_1, d.before a0 Z = true) (hby : c.code = method_4_code) (hml : c.maxLocals = 5) (hown : s.vm.findClass "com/example/feldtafel/feldtafel/LinesIsBlankPinLaw" = some m.cls) (hret : meth.sig.returnType = (some .boolean)) (hlk : meth.locks = false) (e0 : T.heap = h0) (N0 : Fr n0 locs) (V_ar : AI Z h0 ar .byte vs) (x1 : Int32) (x2 : Int32) (x3 : Int32) (x4 : Int32) (hb0 : ¬ x1 < 0) (hb1 : x1.toNatClampNeg < vs.length) :
    Go p e below s 0 0 (QP (some (.int (K4_0 vs x1 x2 x3 x4))) h0 n0) T (mkF m 0 #[.val (.ref ar), .val (.int x1), .val (.int x2), .val (.int x3), .val (.int x4)] []) := by
  rw [K4_0]
  refine w_iloadN X hx (hb hby d4_0) (pc' := 1) rfl rfl ?_
  refine w_iloadN X hx (hb hby d4_1) (pc' := 2) rfl rfl ?_
  refine w_icmp_lt X hx (hb hby d4_2) (pf := 5) (pt := 10) rfl (by decide) (by decide) (fun hc2 => ?_) (fun hc2 => ?_)
  · rw [if_pos hc2]
    refine w_iconst (v := 1) X hx (hb hby d4_10) (pc' := 11) rfl rfl ?_
    exact w_retZ X hx hret hlk (hb hby d4_11) (by decide) (by decide) ⟨rfl, N0, e0⟩
  · rw [if_neg hc2]
    refine w_iloadN X hx (hb hby d4_5) (pc' := 6) rfl rfl ?_
    refine w_iloadN X hx (hb hby d4_6) (pc' := 7) rfl rfl ?_
    refine w_icmp_lt X hx (hb hby d4_7) (pf := 10) (pt := 12) rfl (by decide) (by decide) (fun hc7 => ?_) (fun hc7 => ?_)
    · rw [if_pos hc7]
      refine w_aloadN X hx (hb hby d4_12) (pc' := 13) rfl rfl rfl ?_
      refine w_iloadN X hx (hb hby d4_13) (pc' := 14) rfl rfl ?_
      refine w_baload X hx hZ e0 V_ar (v := (vs.getD (x1).toNatClampNeg 0)) hb0 (own_getD hb1) (hb hby d4_14) (pc' := 15) rfl ?_
      refine w_bipush (v := 32) X hx (hb hby d4_15) (pc' := 17) rfl rfl ?_
      refine w_icmp_eq X hx (hb hby d4_17) (pf := 20) (pt := 28) rfl (by decide) (by decide) (fun hc17 => ?_) (fun hc17 => ?_)
      · rw [if_pos hc17]
        refine w_iconst (v := 1) X hx (hb hby d4_28) (pc' := 29) rfl rfl ?_
        exact w_retZ X hx hret hlk (hb hby d4_29) (by decide) (by decide) ⟨rfl, N0, e0⟩
      · rw [if_neg hc17]
        refine w_aloadN X hx (hb hby d4_20) (pc' := 21) rfl rfl rfl ?_
        refine w_iloadN X hx (hb hby d4_21) (pc' := 22) rfl rfl ?_
        refine w_baload X hx hZ e0 V_ar (v := (vs.getD (x1).toNatClampNeg 0)) hb0 (own_getD hb1) (hb hby d4_22) (pc' := 23) rfl ?_
        refine w_bipush (v := 9) X hx (hb hby d4_23) (pc' := 25) rfl rfl ?_
        refine w_icmp_ne X hx (hb hby d4_25) (pf := 28) (pt := 30) rfl (by decide) (by decide) (fun hc25 => ?_) (fun hc25 => ?_)
        · rw [if_neg hc25]
          refine w_iload X hx (hb hby d4_30) (pc' := 32) rfl rfl ?_
          refine w_if_eq X hx (hb hby d4_32) (pf := 35) (pt := 54) rfl (by decide) (by decide) (fun hc32 => ?_) (fun hc32 => ?_)
          · rw [if_pos hc32]
            refine w_iconst (v := 0) X hx (hb hby d4_54) (pc' := 55) rfl rfl ?_
            exact w_retZ X hx hret hlk (hb hby d4_55) (by decide) (by decide) ⟨rfl, N0, e0⟩
          · rw [if_neg hc32]
            refine w_iloadN X hx (hb hby d4_35) (pc' := 36) rfl rfl ?_
            refine w_iloadN X hx (hb hby d4_36) (pc' := 37) rfl rfl ?_
            refine w_iconst (v := 1) X hx (hb hby d4_37) (pc' := 38) rfl rfl ?_
            refine w_isub X hx (hb hby d4_38) (pc' := 39) rfl ?_
            refine w_icmp_ne X hx (hb hby d4_39) (pf := 42) (pt := 54) rfl (by decide) (by decide) (fun hc39 => ?_) (fun hc39 => ?_)
            · rw [if_neg hc39]
              refine w_iconst (v := 0) X hx (hb hby d4_54) (pc' := 55) rfl rfl ?_
              exact w_retZ X hx hret hlk (hb hby d4_55) (by decide) (by decide) ⟨rfl, N0, e0⟩
            · rw [if_pos hc39]
              refine w_aloadN X hx (hb hby d4_42) (pc' := 43) rfl rfl rfl ?_
              refine w_iloadN X hx (hb hby d4_43) (pc' := 44) rfl rfl ?_
              refine w_baload X hx hZ e0 V_ar (v := (vs.getD (x1).toNatClampNeg 0)) hb0 (own_getD hb1) (hb hby d4_44) (pc' := 45) rfl ?_
              refine w_bipush (v := 13) X hx (hb hby d4_45) (pc' := 47) rfl rfl ?_
              refine w_icmp_ne X hx (hb hby d4_47) (pf := 50) (pt := 54) rfl (by decide) (by decide) (fun hc47 => ?_) (fun hc47 => ?_)
              · rw [if_neg hc47]
                refine w_iconst (v := 0) X hx (hb hby d4_54) (pc' := 55) rfl rfl ?_
                exact w_retZ X hx hret hlk (hb hby d4_55) (by decide) (by decide) ⟨rfl, N0, e0⟩
              · rw [if_pos hc47]
                refine w_iconst (v := 1) X hx (hb hby d4_50) (pc' := 51) rfl rfl ?_
                refine w_goto X hx (hb hby d4_51) (pc' := 55) (by decide) (by decide) ?_
                exact w_retZ X hx hret hlk (hb hby d4_55) (by decide) (by decide) ⟨rfl, N0, e0⟩
        · rw [if_pos hc25]
          refine w_iconst (v := 1) X hx (hb hby d4_28) (pc' := 29) rfl rfl ?_
          exact w_retZ X hx hret hlk (hb hby d4_29) (by decide) (by decide) ⟨rfl, N0, e0⟩
    · rw [if_neg hc7]
      refine w_iconst (v := 1) X hx (hb hby d4_10) (pc' := 11) rfl rfl ?_
      exact w_retZ X hx hret hlk (hb hby d4_11) (by decide) (by decide) ⟨rfl, N0, e0⟩
theorem ef_4 (m : MethodId) (ar : Addr) (x1 : Int32) (x2 : Int32) (x3 : Int32) (x4 : Int32) : entryFrame m #[(.ref ar), (.int x1), (.int x2), (.int x3), (.int x4)] 5 = mkF m 0 #[.val (.ref ar), .val (.int x1), .val (.int x2), .val (.int x3), .val (.int x4)] [] := by first | (simp [entryFrame, mkF, argsToLocals, Value.category]; done) | rfl
theorem rm4 (l : Launch) (Z : State) (a0 : Array Value) (hw : ∀ d ∈ tables_1, d.before a0 Z = true) (ar : Addr) (x1 : Int32) (x2 : Int32) (x3 : Int32) (x4 : Int32) (h0 : Heap) (n0 : Nat) (vs : List Int32) (V_ar : AI Z h0 ar .byte vs) (hb0 : ¬ x1 < 0) (hb1 : x1.toNatClampNeg < vs.length) :
    Con l Z (⟨"com/example/feldtafel/feldtafel/LinesIsBlankPinLaw", "ok", "([BIIIZ)Z"⟩ : MethodName) method_4_code 5 (some .boolean) ({ frames := 0, cells := 0, slots := 0, locals := 0 } : Room) #[(.ref ar), (.int x1), (.int x2), (.int x3), (.int x4)] h0 (QP (some (.int (K4_0 vs x1 x2 x3 x4))) h0 n0) := by
  refine Con.of (plainFor_of_name (by first | (simp [plainName, overriddenIn]; done) | decide +kernel)) ?_
  intro p e s m below meth c T X hx hZ hby hml hown hnm hret hlk e0
  rw [ef_4]
  exact bk4_0 X hx hZ hw hby hml hown hret hlk e0 (Fr.nil n0) V_ar x1 x2 x3 x4 hb0 hb1
theorem d5_0 : decode prog_20_method_12_code 0 = .ok (.iload_n 3, 1) := by decide +kernel
theorem d5_1 : decode prog_20_method_12_code 1 = .ok (.ifCond .eq 24, 3) := by decide +kernel
theorem d5_4 : decode prog_20_method_12_code 4 = .ok (.iload_n 2, 1) := by decide +kernel
theorem d5_5 : decode prog_20_method_12_code 5 = .ok (.iload_n 1, 1) := by decide +kernel
theorem d5_6 : decode prog_20_method_12_code 6 = .ok (.if_icmp .le 19, 3) := by decide +kernel
theorem d5_9 : decode prog_20_method_12_code 9 = .ok (.aload_n 0, 1) := by decide +kernel
theorem d5_10 : decode prog_20_method_12_code 10 = .ok (.iload_n 2, 1) := by decide +kernel
theorem d5_11 : decode prog_20_method_12_code 11 = .ok (.iconst 1, 1) := by decide +kernel
theorem d5_12 : decode prog_20_method_12_code 12 = .ok (.isub, 1) := by decide +kernel
theorem d5_13 : decode prog_20_method_12_code 13 = .ok (.baload, 1) := by decide +kernel
theorem d5_14 : decode prog_20_method_12_code 14 = .ok (.bipush 13, 2) := by decide +kernel
theorem d5_16 : decode prog_20_method_12_code 16 = .ok (.if_icmp .ne 9, 3) := by decide +kernel
theorem d5_19 : decode prog_20_method_12_code 19 = .ok (.iload_n 2, 1) := by decide +kernel
theorem d5_20 : decode prog_20_method_12_code 20 = .ok (.iconst 1, 1) := by decide +kernel
theorem d5_21 : decode prog_20_method_12_code 21 = .ok (.isub, 1) := by decide +kernel
theorem d5_22 : decode prog_20_method_12_code 22 = .ok (.goto 4, 3) := by decide +kernel
theorem d5_25 : decode prog_20_method_12_code 25 = .ok (.iload_n 2, 1) := by decide +kernel
theorem d5_26 : decode prog_20_method_12_code 26 = .ok (.istore 4, 2) := by decide +kernel
theorem d5_28 : decode prog_20_method_12_code 28 = .ok (.iload_n 1, 1) := by decide +kernel
theorem d5_29 : decode prog_20_method_12_code 29 = .ok (.istore 5, 2) := by decide +kernel
theorem d5_31 : decode prog_20_method_12_code 31 = .ok (.iload 5, 2) := by decide +kernel
theorem d5_33 : decode prog_20_method_12_code 33 = .ok (.iload 4, 2) := by decide +kernel
theorem d5_35 : decode prog_20_method_12_code 35 = .ok (.if_icmp .ge 29, 3) := by decide +kernel
theorem d5_38 : decode prog_20_method_12_code 38 = .ok (.aload_n 0, 1) := by decide +kernel
theorem d5_39 : decode prog_20_method_12_code 39 = .ok (.iload 5, 2) := by decide +kernel
theorem d5_41 : decode prog_20_method_12_code 41 = .ok (.baload, 1) := by decide +kernel
theorem d5_42 : decode prog_20_method_12_code 42 = .ok (.bipush 32, 2) := by decide +kernel
theorem d5_44 : decode prog_20_method_12_code 44 = .ok (.if_icmp .eq 14, 3) := by decide +kernel
theorem d5_47 : decode prog_20_method_12_code 47 = .ok (.aload_n 0, 1) := by decide +kernel
theorem d5_48 : decode prog_20_method_12_code 48 = .ok (.iload 5, 2) := by decide +kernel
theorem d5_50 : decode prog_20_method_12_code 50 = .ok (.baload, 1) := by decide +kernel
theorem d5_51 : decode prog_20_method_12_code 51 = .ok (.bipush 9, 2) := by decide +kernel
theorem d5_53 : decode prog_20_method_12_code 53 = .ok (.if_icmp .eq 5, 3) := by decide +kernel
theorem d5_56 : decode prog_20_method_12_code 56 = .ok (.iconst 0, 1) := by decide +kernel
theorem d5_57 : decode prog_20_method_12_code 57 = .ok (.ireturn, 1) := by decide +kernel
theorem d5_58 : decode prog_20_method_12_code 58 = .ok (.iinc 5 1, 3) := by decide +kernel
theorem d5_61 : decode prog_20_method_12_code 61 = .ok (.goto (-30), 3) := by decide +kernel
theorem d5_64 : decode prog_20_method_12_code 64 = .ok (.iconst 1, 1) := by decide +kernel
theorem d5_65 : decode prog_20_method_12_code 65 = .ok (.ireturn, 1) := by decide +kernel
def own_bl (vs : List Int32) : Nat → Nat → Int32
  | _, 0 => 1
  | i, k + 1 => if vs.getD i 0 = (32 : Int32) then own_bl vs (i + 1) k else (if vs.getD i 0 = (9 : Int32) then own_bl vs (i + 1) k else 0)
def own_is (vs : List Int32) (a b : Nat) (x3 : Int32) : Int32 := if x3 = (0 : Int32) then own_bl vs a (b - a) else (if a.toInt32 < b.toInt32 then (if (vs.getD (b - 1) 0) = (13 : Int32) then own_bl vs a (b - 1 - a) else own_bl vs a (b - a)) else own_bl vs a (b - a))
theorem own_dec1 {b : Nat} (h0 : 0 < b) (h : b < 2147483648) : b.toInt32 - 1 = (b - 1).toInt32 := by
  obtain ⟨n, rfl⟩ : ∃ n, b = n + 1 := ⟨b - 1, by omega⟩
  exact own_idec h
set_option maxRecDepth 65536 in
set_option maxHeartbeats 40000000 in
theorem lp5 {p : Program} {l : Launch} {e : Env} {s : State} {m : MethodId} {args : Array Value} {below : List Frame} {meth : Method} {c : Code} {T : State} {locs : List Loc} {Z : State} {a0 : Array Value} {h0 : Heap} {n0 : Nat} {ar : Addr} {vs : List Int32} (X : Stand p l e ({ frames := 0, cells := 0, slots := 0, locals := 0 } : Room) s m args below meth c T locs 0 0) (hx : p.tables.exec = Jvm.exec) (hZ : Z.Warmed39 s.vm) (hw : ∀ d ∈ tables_1, d.before a0 Z = true) (hby : c.code = prog_20_method_12_code) (hml : c.maxLocals = 6) (hown : s.vm.findClass "com/example/feldtafel/feldtafel/Lines" = some m.cls) (hret : meth.sig.returnType = (some .boolean)) (hlk : meth.locks = false) (e0 : T.heap = h0) (N0 : Fr n0 locs) (V_ar : AI Z h0 ar .byte vs) (x1 x2 x3 : Int32) : ∀ (k i : Nat), i + k ≤ vs.length →
    Go p e below s 0 0 (QP (some (.int (own_bl vs i k))) h0 n0) T (mkF m 31 #[.val (.ref ar), .val (.int x1), .val (.int x2), .val (.int x3), .val (.int (i + k).toInt32), .val (.int i.toInt32)] [])
  | 0, i, hn => by
    rw [own_bl]
    refine w_iload X hx (hb hby d5_31) (pc' := 33) rfl rfl ?_
    refine w_iload X hx (hb hby d5_33) (pc' := 35) rfl rfl ?_
    have hf35 : ¬ (i.toInt32 < (i + 0).toInt32) := Int32.lt_irrefl
    refine w_icmp_ge X hx (hb hby d5_35) (pf := 38) (pt := 64) rfl (by decide) (by decide) (fun hc35 => ?_) (fun hc => absurd hc hf35)
    refine w_iconst (v := 1) X hx (hb hby d5_64) (pc' := 65) rfl rfl ?_
    exact w_retZ X hx hret hlk (hb hby d5_65) (by decide) (by decide) ⟨rfl, N0, e0⟩
  | k + 1, i, hn => by
    have hl := V_ar.len
    have ih := lp5 X hx hZ hw hby hml hown hret hlk e0 N0 V_ar x1 x2 x3 k (i + 1) (by omega)
    rw [show i + 1 + k = i + (k + 1) from by omega] at ih
    rw [own_bl]
    refine w_iload X hx (hb hby d5_31) (pc' := 33) rfl rfl ?_
    refine w_iload X hx (hb hby d5_33) (pc' := 35) rfl rfl ?_
    have hf35 : i.toInt32 < (i + (k + 1)).toInt32 := (own_ilt (by omega) (by omega)).2 (by omega)
    refine w_icmp_ge X hx (hb hby d5_35) (pf := 38) (pt := 64) rfl (by decide) (by decide) (fun hc => absurd hf35 hc) (fun hc35 => ?_)
    refine w_aloadN X hx (hb hby d5_38) (pc' := 39) rfl rfl rfl ?_
    refine w_iload X hx (hb hby d5_39) (pc' := 41) rfl rfl ?_
    refine w_baload X hx hZ e0 V_ar (v := (vs.getD i 0)) (own_nneg (by omega)) (by rw [own_nat (by omega)]; exact own_getD (by omega)) (hb hby d5_41) (pc' := 42) rfl ?_
    refine w_bipush (v := 32) X hx (hb hby d5_42) (pc' := 44) rfl rfl ?_
    refine w_icmp_eq X hx (hb hby d5_44) (pf := 47) (pt := 58) rfl (by decide) (by decide) (fun hc44 => ?_) (fun hc44 => ?_)
    · rw [if_pos hc44]
      refine w_iinc (Ls' := #[.val (.ref ar), .val (.int x1), .val (.int x2), .val (.int x3), .val (.int (i + (k + 1)).toInt32), .val (.int (i.toInt32 + (1 : Int32)))]) (w := (1 : Int32)) X hx (hb hby d5_58) (pc' := 61) rfl rfl rfl rfl ?_
      refine w_goto X hx (hb hby d5_61) (pc' := 31) (by decide) (by decide) ?_
      rw [own_iinc (by omega)]
      exact ih
    · rw [if_neg hc44]
      refine w_aloadN X hx (hb hby d5_47) (pc' := 48) rfl rfl rfl ?_
      refine w_iload X hx (hb hby d5_48) (pc' := 50) rfl rfl ?_
      refine w_baload X hx hZ e0 V_ar (v := (vs.getD i 0)) (own_nneg (by omega)) (by rw [own_nat (by omega)]; exact own_getD (by omega)) (hb hby d5_50) (pc' := 51) rfl ?_
      refine w_bipush (v := 9) X hx (hb hby d5_51) (pc' := 53) rfl rfl ?_
      refine w_icmp_eq X hx (hb hby d5_53) (pf := 56) (pt := 58) rfl (by decide) (by decide) (fun hc53 => ?_) (fun hc53 => ?_)
      · rw [if_pos hc53]
        refine w_iinc (Ls' := #[.val (.ref ar), .val (.int x1), .val (.int x2), .val (.int x3), .val (.int (i + (k + 1)).toInt32), .val (.int (i.toInt32 + (1 : Int32)))]) (w := (1 : Int32)) X hx (hb hby d5_58) (pc' := 61) rfl rfl rfl rfl ?_
        refine w_goto X hx (hb hby d5_61) (pc' := 31) (by decide) (by decide) ?_
        rw [own_iinc (by omega)]
        exact ih
      · rw [if_neg hc53]
        refine w_iconst (v := 0) X hx (hb hby d5_56) (pc' := 57) rfl rfl ?_
        exact w_retZ X hx hret hlk (hb hby d5_57) (by decide) (by decide) ⟨rfl, N0, e0⟩
theorem ef_5 (m : MethodId) (ar : Addr) (x1 x2 x3 : Int32) : entryFrame m #[(.ref ar), (.int x1), (.int x2), (.int x3)] 6 = mkF m 0 #[.val (.ref ar), .val (.int x1), .val (.int x2), .val (.int x3), .unset, .unset] [] := by first | (simp [entryFrame, mkF, argsToLocals, Value.category]; done) | rfl
set_option maxRecDepth 65536 in
set_option maxHeartbeats 40000000 in
theorem rm5 (l : Launch) (Z : State) (a0 : Array Value) (hw : ∀ d ∈ tables_1, d.before a0 Z = true) (ar : Addr) (a b : Nat) (x3 : Int32) (h0 : Heap) (n0 : Nat) (vs : List Int32) (V_ar : AI Z h0 ar .byte vs) (hab : a ≤ b) (hbl : b ≤ vs.length) :
    Con l Z (⟨"com/example/feldtafel/feldtafel/Lines", "isBlank", "([BIIZ)Z"⟩ : MethodName) prog_20_method_12_code 6 (some .boolean) ({ frames := 0, cells := 0, slots := 0, locals := 0 } : Room) #[(.ref ar), (.int a.toInt32), (.int b.toInt32), (.int x3)] h0 (QP (some (.int (own_is vs a b x3))) h0 n0) := by
  refine Con.of (plainFor_of_name (by first | (simp [plainName, overriddenIn]; done) | decide +kernel)) ?_
  intro p e s m below meth c T X hx hZ hby hml hown hnm hret hlk e0
  rw [ef_5, own_is]
  have hl := V_ar.len
  have N0 := Fr.nil n0
  refine w_iloadN X hx (hb hby d5_0) (pc' := 1) rfl rfl ?_
  refine w_if_eq X hx (hb hby d5_1) (pf := 4) (pt := 25) rfl (by decide) (by decide) (fun hc1 => ?_) (fun hc1 => ?_)
  · rw [if_pos hc1]
    refine w_iloadN X hx (hb hby d5_25) (pc' := 26) rfl rfl ?_
    refine w_istore (Ls' := #[.val (.ref ar), .val (.int a.toInt32), .val (.int b.toInt32), .val (.int x3), .val (.int b.toInt32), .unset]) X hx (hb hby d5_26) (pc' := 28) rfl rfl ?_
    refine w_iloadN X hx (hb hby d5_28) (pc' := 29) rfl rfl ?_
    refine w_istore (Ls' := #[.val (.ref ar), .val (.int a.toInt32), .val (.int b.toInt32), .val (.int x3), .val (.int b.toInt32), .val (.int a.toInt32)]) X hx (hb hby d5_29) (pc' := 31) rfl rfl ?_
    have q := lp5 X hx hZ hw hby hml hown hret hlk e0 N0 V_ar a.toInt32 b.toInt32 x3 (b - a) a (by omega)
    rw [show a + (b - a) = b from by omega] at q
    exact q
  · rw [if_neg hc1]
    refine w_iloadN X hx (hb hby d5_4) (pc' := 5) rfl rfl ?_
    refine w_iloadN X hx (hb hby d5_5) (pc' := 6) rfl rfl ?_
    refine w_icmp_le X hx (hb hby d5_6) (pf := 9) (pt := 25) rfl (by decide) (by decide) (fun hc6 => ?_) (fun hc6 => ?_)
    · rw [if_neg hc6]
      refine w_iloadN X hx (hb hby d5_25) (pc' := 26) rfl rfl ?_
      refine w_istore (Ls' := #[.val (.ref ar), .val (.int a.toInt32), .val (.int b.toInt32), .val (.int x3), .val (.int b.toInt32), .unset]) X hx (hb hby d5_26) (pc' := 28) rfl rfl ?_
      refine w_iloadN X hx (hb hby d5_28) (pc' := 29) rfl rfl ?_
      refine w_istore (Ls' := #[.val (.ref ar), .val (.int a.toInt32), .val (.int b.toInt32), .val (.int x3), .val (.int b.toInt32), .val (.int a.toInt32)]) X hx (hb hby d5_29) (pc' := 31) rfl rfl ?_
      have q := lp5 X hx hZ hw hby hml hown hret hlk e0 N0 V_ar a.toInt32 b.toInt32 x3 (b - a) a (by omega)
      rw [show a + (b - a) = b from by omega] at q
      exact q
    · rw [if_pos hc6]
      refine w_aloadN X hx (hb hby d5_9) (pc' := 10) rfl rfl rfl ?_
      refine w_iloadN X hx (hb hby d5_10) (pc' := 11) rfl rfl ?_
      refine w_iconst (v := 1) X hx (hb hby d5_11) (pc' := 12) rfl rfl ?_
      refine w_isub X hx (hb hby d5_12) (pc' := 13) rfl ?_
      refine w_baload X hx hZ e0 V_ar (v := (vs.getD (b - 1) 0)) (by have hab' := (own_ilt (by omega) (by omega)).1 hc6; rw [own_dec1 (by omega) (by omega)]; exact own_nneg (by omega)) (by have hab' := (own_ilt (by omega) (by omega)).1 hc6; rw [own_dec1 (by omega) (by omega), own_nat (by omega)]; exact own_getD (by omega)) (hb hby d5_13) (pc' := 14) rfl ?_
      refine w_bipush (v := 13) X hx (hb hby d5_14) (pc' := 16) rfl rfl ?_
      refine w_icmp_ne X hx (hb hby d5_16) (pf := 19) (pt := 25) rfl (by decide) (by decide) (fun hc16 => ?_) (fun hc16 => ?_)
      · rw [if_neg hc16]
        refine w_iloadN X hx (hb hby d5_25) (pc' := 26) rfl rfl ?_
        refine w_istore (Ls' := #[.val (.ref ar), .val (.int a.toInt32), .val (.int b.toInt32), .val (.int x3), .val (.int b.toInt32), .unset]) X hx (hb hby d5_26) (pc' := 28) rfl rfl ?_
        refine w_iloadN X hx (hb hby d5_28) (pc' := 29) rfl rfl ?_
        refine w_istore (Ls' := #[.val (.ref ar), .val (.int a.toInt32), .val (.int b.toInt32), .val (.int x3), .val (.int b.toInt32), .val (.int a.toInt32)]) X hx (hb hby d5_29) (pc' := 31) rfl rfl ?_
        have q := lp5 X hx hZ hw hby hml hown hret hlk e0 N0 V_ar a.toInt32 b.toInt32 x3 (b - a) a (by omega)
        rw [show a + (b - a) = b from by omega] at q
        exact q
      · rw [if_pos hc16]
        refine w_iloadN X hx (hb hby d5_19) (pc' := 20) rfl rfl ?_
        refine w_iconst (v := 1) X hx (hb hby d5_20) (pc' := 21) rfl rfl ?_
        refine w_isub X hx (hb hby d5_21) (pc' := 22) rfl ?_
        refine w_goto X hx (hb hby d5_22) (pc' := 26) (by decide) (by decide) ?_
        refine w_istore (Ls' := #[.val (.ref ar), .val (.int a.toInt32), .val (.int b.toInt32), .val (.int x3), .val (.int (b.toInt32 - (1 : Int32))), .unset]) X hx (hb hby d5_26) (pc' := 28) rfl rfl ?_
        refine w_iloadN X hx (hb hby d5_28) (pc' := 29) rfl rfl ?_
        refine w_istore (Ls' := #[.val (.ref ar), .val (.int a.toInt32), .val (.int b.toInt32), .val (.int x3), .val (.int (b.toInt32 - (1 : Int32))), .val (.int a.toInt32)]) X hx (hb hby d5_29) (pc' := 31) rfl rfl ?_
        have hab' := (own_ilt (by omega) (by omega)).1 hc6
        rw [own_dec1 (by omega) (by omega)]
        have q := lp5 X hx hZ hw hby hml hown hret hlk e0 N0 V_ar a.toInt32 b.toInt32 x3 (b - 1 - a) a (by omega)
        rw [show a + (b - 1 - a) = b - 1 from by omega] at q
        exact q
theorem own_pk (x : Int32) : nar .byte (K1_0 x) = K1_0 x := by
  have h : ∀ y : Int32, nar .byte (nar .byte y) = nar .byte y := fun y => by
    show (y.toInt8.toInt32).toInt8.toInt32 = y.toInt8.toInt32
    simp
  rw [K1_0]
  repeat' split
  all_goals first | decide | exact h _
theorem own_five {x z : Int32} (h : z = (x &&& 2147483647) % 5) : 0 ≤ z.toInt ∧ z.toInt < 5 := by
  have h0 := (own_m x 2147483647 (k := 31) (by decide) (by decide)).1
  have e5 : (5 : Int32).toInt = 5 := by decide
  rw [h, Jvm.Kit.i32_rem_nonneg h0, e5]
  omega
theorem own_as {z : Int32} (h : 0 ≤ z.toInt) : z = z.toInt.toNat.toInt32 := by
  have := z.toInt_lt
  apply own_toInt
  rw [own_i (by omega)]
  omega
theorem own_ab {x y xx yy sa sb : Int32} (hxx : xx = (x &&& 2147483647) % 5) (hyy : yy = (y &&& 2147483647) % 5) (hsa : sa = K2_0 xx yy) (hsb : sb = K3_0 xx yy) : ∃ a b : Nat, sa = a.toInt32 ∧ sb = b.toInt32 ∧ a ≤ b ∧ b ≤ 4 := by
  have h1 := own_five hxx
  have h2 := own_five hyy
  rw [K2_0] at hsa
  rw [K3_0] at hsb
  simp only [Int32.lt_iff_toInt_lt] at hsa hsb
  by_cases c : yy.toInt < xx.toInt
  · rw [if_pos c] at hsa
    rw [if_neg (by omega)] at hsb
    exact ⟨yy.toInt.toNat, xx.toInt.toNat, by rw [hsa]; exact own_as h2.1, by rw [hsb]; exact own_as h1.1, by omega, by omega⟩
  · rw [if_neg c] at hsa
    by_cases c2 : xx.toInt < yy.toInt
    · rw [if_pos c2] at hsb
      exact ⟨xx.toInt.toNat, yy.toInt.toNat, by rw [hsa]; exact own_as h1.1, by rw [hsb]; exact own_as h2.1, by omega, by omega⟩
    · rw [if_neg c2] at hsb
      exact ⟨xx.toInt.toNat, xx.toInt.toNat, by rw [hsa]; exact own_as h1.1, by rw [hsb]; exact own_as h1.1, by omega, by omega⟩
set_option maxHeartbeats 40000000 in
theorem own_law {p q r t cr ve : Int32} {a b : Nat} (hab : a ≤ b) (hb : b ≤ 4) (hve : ve = (if K4_0 [p, q, r, t] 0 a.toInt32 b.toInt32 cr = 0 then 0 else (if K4_0 [p, q, r, t] 1 a.toInt32 b.toInt32 cr = 0 then 0 else (if K4_0 [p, q, r, t] 2 a.toInt32 b.toInt32 cr = 0 then 0 else (if K4_0 [p, q, r, t] 3 a.toInt32 b.toInt32 cr = 0 then 0 else 1))))) : own_is [p, q, r, t] a b cr = ve := by
  rw [hve]
  have : (a = 0 ∧ b = 0) ∨ (a = 0 ∧ b = 1) ∨ (a = 0 ∧ b = 2) ∨ (a = 0 ∧ b = 3) ∨ (a = 0 ∧ b = 4) ∨ (a = 1 ∧ b = 1) ∨ (a = 1 ∧ b = 2) ∨ (a = 1 ∧ b = 3) ∨ (a = 1 ∧ b = 4) ∨ (a = 2 ∧ b = 2) ∨ (a = 2 ∧ b = 3) ∨ (a = 2 ∧ b = 4) ∨ (a = 3 ∧ b = 3) ∨ (a = 3 ∧ b = 4) ∨ (a = 4 ∧ b = 4) := by omega
  by_cases c0 : cr = 0
  all_goals
    rcases this with ⟨rfl, rfl⟩ | ⟨rfl, rfl⟩ | ⟨rfl, rfl⟩ | ⟨rfl, rfl⟩ | ⟨rfl, rfl⟩ | ⟨rfl, rfl⟩ | ⟨rfl, rfl⟩ | ⟨rfl, rfl⟩ | ⟨rfl, rfl⟩ | ⟨rfl, rfl⟩ | ⟨rfl, rfl⟩ | ⟨rfl, rfl⟩ | ⟨rfl, rfl⟩ | ⟨rfl, rfl⟩ | ⟨rfl, rfl⟩ <;>
    simp +decide only [own_is, own_bl, K4_0, c0, if_true, if_false, ↓reduceIte, List.getD_cons_zero, List.getD_cons_succ] <;> repeat' (first | rfl | split) <;> simp_all
theorem ef_0 (m : MethodId) (x0 : Int64) (x1 : Int32) (x2 : Int32) (x3 : Int32) : entryFrame m #[(.long x0), (.int x1), (.int x2), (.int x3)] maxLocals = mkF m 0 #[.val (.long x0), .second, .val (.int x1), .val (.int x2), .val (.int x3), .unset, .unset, .unset, .unset, .unset, .unset, .unset] [] := by first | (simp [entryFrame, mkF, argsToLocals, Value.category, maxLocals]; done) | rfl
set_option maxRecDepth 65536 in
set_option maxHeartbeats 40000000 in
theorem rm0 (l : Launch) (Z : State) (a0 : Array Value) (hw : ∀ d ∈ tables_1, d.before a0 Z = true) (x0 : Int64) (x1 : Int32) (x2 : Int32) (x3 : Int32) (h0 : Heap) (n0 : Nat) (Z0 : n0 ≤ h0.size) :
    Con l Z x code maxLocals ret room_1 #[(.long x0), (.int x1), (.int x2), (.int x3)] h0 (QL (some (.int 1)) n0) := by
  refine Con.of (plainFor_of_name (by first | (simp [plainName, overriddenIn]; done) | decide +kernel)) ?_
  intro p e s m below meth c T X hx hZ hby hml hown hnm hret hlk e0
  rw [ef_0]
  have N0 := Fr.nil n0
  show Go p e below s room_1.cells room_1.slots (QL (some (.int 1)) n0) T (mkF m 0 #[.val (.long x0), .second, .val (.int x1), .val (.int x2), .val (.int x3), .unset, .unset, .unset, .unset, .unset, .unset, .unset] [])
  refine w_iconst (v := 4) X hx (hb hby at_0) (pc' := 1) rfl rfl ?_
  refine w_newB X hx hZ (cap := 4) e0 (hw _ (List.mem_of_getElem? (i := 0) rfl)) (by decide) (by decide) (by decide) (by decide) (by decide) (hb hby at_1) (pc' := 3) rfl (fun T1 h1 b1 X1 e1 E1 q1 V1 => ?_)
  have g_b1 : n0 ≤ b1 := by rw [q1]; exact Z0
  have V1 : AI Z h1 b1 .byte [(0 : Int32), (0 : Int32), (0 : Int32), (0 : Int32)] := V1
  have zn1 : n0 ≤ h1.size := Nat.le_trans Z0 E1.1
  refine w_astore (Ls' := #[.val (.long x0), .second, .val (.int x1), .val (.int x2), .val (.int x3), .val (.ref b1), .unset, .unset, .unset, .unset, .unset, .unset]) X1 hx (hb hby at_3) (pc' := 5) rfl rfl rfl ?_
  refine w_aload X1 hx (hb hby at_5) (pc' := 7) rfl rfl rfl ?_
  refine w_iconst (v := 0) X1 hx (hb hby at_7) (pc' := 8) rfl rfl ?_
  refine w_lloadN X1 hx (hb hby at_8) (pc' := 9) rfl rfl ?_
  refine w_l2i X1 hx (hb hby at_9) (pc' := 10) rfl ?_
  refine w_callS (argsL := [(.int x0.toInt32)]) (rest := [(.int (0 : Int32)), (.ref b1)]) X1 hx hZ hown e1 (rm1 l Z a0 hw x0.toInt32 h1 n0) (hw _ (List.mem_of_getElem? (i := 1) rfl)) (hw _ (List.mem_of_getElem? (i := 2) rfl)) (hw _ (List.mem_of_getElem? (i := 3) rfl)) (hw _ (List.mem_of_getElem? (i := 4) rfl)) (by decide) (by decide) (W := 2) (by decide) (by decide) (by decide) (by rw [hml]; rfl) (lenOf pd_0 rfl) (Nat.le_refl _) rfl (hb hby at_10) (pc' := 13) rfl (fun T2 L2 v2 X2 hQ2 => ?_)
  obtain ⟨rfl, N2q, e2⟩ := hQ2
  have N2 := Fr.app N0 N2q
  have X2 : Stand p l e room_1 s m _ below meth c T2 _ 1 4 := X2
  show Go p e below s room_1.cells room_1.slots (QL (some (.int 1)) n0) T2 (mkF m 13 #[.val (.long x0), .second, .val (.int x1), .val (.int x2), .val (.int x3), .val (.ref b1), .unset, .unset, .unset, .unset, .unset, .unset] [(.int (K1_0 x0.toInt32)), (.int (0 : Int32)), (.ref b1)])
  refine w_bastore X2 hx hZ e2 V1 (by decide) (by show _ < 4; decide) (hb hby at_13) (pc' := 14) rfl (fun T3 h3 X3 e3 W3 V3 => ?_)
  have qv3 : (nar .byte (K1_0 x0.toInt32)) = (K1_0 x0.toInt32) := own_pk _
  rw [qv3] at V3
  have V3 : AI Z h3 b1 .byte [(K1_0 x0.toInt32), (0 : Int32), (0 : Int32), (0 : Int32)] := V3
  have N3 := Fr.snoc X3 N2 g_b1
  have zn3 : n0 ≤ h3.size := by rw [W3.size]; exact zn1
  refine w_aload X3 hx (hb hby at_14) (pc' := 16) rfl rfl rfl ?_
  refine w_iconst (v := 1) X3 hx (hb hby at_16) (pc' := 17) rfl rfl ?_
  refine w_lloadN X3 hx (hb hby at_17) (pc' := 18) rfl rfl ?_
  refine w_bipush (v := 16) X3 hx (hb hby at_18) (pc' := 20) rfl rfl ?_
  refine w_lushr X3 hx (hb hby at_20) (pc' := 21) rfl ?_
  refine w_l2i X3 hx (hb hby at_21) (pc' := 22) rfl ?_
  refine w_callS (argsL := [(.int (jlushr x0 (16 : Int32)).toInt32)]) (rest := [(.int (1 : Int32)), (.ref b1)]) X3 hx hZ hown e3 (rm1 l Z a0 hw (jlushr x0 (16 : Int32)).toInt32 h3 n0) (hw _ (List.mem_of_getElem? (i := 1) rfl)) (hw _ (List.mem_of_getElem? (i := 2) rfl)) (hw _ (List.mem_of_getElem? (i := 3) rfl)) (hw _ (List.mem_of_getElem? (i := 4) rfl)) (by decide) (by decide) (W := 2) (by decide) (by decide) (by decide) (by rw [hml]; rfl) (lenOf pd_0 rfl) (Nat.le_refl _) rfl (hb hby at_22) (pc' := 25) rfl (fun T4 L4 v4 X4 hQ4 => ?_)
  obtain ⟨rfl, N4q, e4⟩ := hQ4
  have N4 := Fr.app N3 N4q
  have X4 : Stand p l e room_1 s m _ below meth c T4 _ 1 4 := X4
  show Go p e below s room_1.cells room_1.slots (QL (some (.int 1)) n0) T4 (mkF m 25 #[.val (.long x0), .second, .val (.int x1), .val (.int x2), .val (.int x3), .val (.ref b1), .unset, .unset, .unset, .unset, .unset, .unset] [(.int (K1_0 (jlushr x0 (16 : Int32)).toInt32)), (.int (1 : Int32)), (.ref b1)])
  refine w_bastore X4 hx hZ e4 V3 (by decide) (by show _ < 4; decide) (hb hby at_25) (pc' := 26) rfl (fun T5 h5 X5 e5 W5 V5 => ?_)
  have qv5 : (nar .byte (K1_0 (jlushr x0 (16 : Int32)).toInt32)) = (K1_0 (jlushr x0 (16 : Int32)).toInt32) := own_pk _
  rw [qv5] at V5
  have V5 : AI Z h5 b1 .byte [(K1_0 x0.toInt32), (K1_0 (jlushr x0 (16 : Int32)).toInt32), (0 : Int32), (0 : Int32)] := V5
  have N5 := Fr.snoc X5 N4 g_b1
  have zn5 : n0 ≤ h5.size := by rw [W5.size]; exact zn3
  refine w_aload X5 hx (hb hby at_26) (pc' := 28) rfl rfl rfl ?_
  refine w_iconst (v := 2) X5 hx (hb hby at_28) (pc' := 29) rfl rfl ?_
  refine w_lloadN X5 hx (hb hby at_29) (pc' := 30) rfl rfl ?_
  refine w_bipush (v := 32) X5 hx (hb hby at_30) (pc' := 32) rfl rfl ?_
  refine w_lushr X5 hx (hb hby at_32) (pc' := 33) rfl ?_
  refine w_l2i X5 hx (hb hby at_33) (pc' := 34) rfl ?_
  refine w_callS (argsL := [(.int (jlushr x0 (32 : Int32)).toInt32)]) (rest := [(.int (2 : Int32)), (.ref b1)]) X5 hx hZ hown e5 (rm1 l Z a0 hw (jlushr x0 (32 : Int32)).toInt32 h5 n0) (hw _ (List.mem_of_getElem? (i := 1) rfl)) (hw _ (List.mem_of_getElem? (i := 2) rfl)) (hw _ (List.mem_of_getElem? (i := 3) rfl)) (hw _ (List.mem_of_getElem? (i := 4) rfl)) (by decide) (by decide) (W := 2) (by decide) (by decide) (by decide) (by rw [hml]; rfl) (lenOf pd_0 rfl) (Nat.le_refl _) rfl (hb hby at_34) (pc' := 37) rfl (fun T6 L6 v6 X6 hQ6 => ?_)
  obtain ⟨rfl, N6q, e6⟩ := hQ6
  have N6 := Fr.app N5 N6q
  have X6 : Stand p l e room_1 s m _ below meth c T6 _ 1 4 := X6
  show Go p e below s room_1.cells room_1.slots (QL (some (.int 1)) n0) T6 (mkF m 37 #[.val (.long x0), .second, .val (.int x1), .val (.int x2), .val (.int x3), .val (.ref b1), .unset, .unset, .unset, .unset, .unset, .unset] [(.int (K1_0 (jlushr x0 (32 : Int32)).toInt32)), (.int (2 : Int32)), (.ref b1)])
  refine w_bastore X6 hx hZ e6 V5 (by decide) (by show _ < 4; decide) (hb hby at_37) (pc' := 38) rfl (fun T7 h7 X7 e7 W7 V7 => ?_)
  have qv7 : (nar .byte (K1_0 (jlushr x0 (32 : Int32)).toInt32)) = (K1_0 (jlushr x0 (32 : Int32)).toInt32) := own_pk _
  rw [qv7] at V7
  have V7 : AI Z h7 b1 .byte [(K1_0 x0.toInt32), (K1_0 (jlushr x0 (16 : Int32)).toInt32), (K1_0 (jlushr x0 (32 : Int32)).toInt32), (0 : Int32)] := V7
  have N7 := Fr.snoc X7 N6 g_b1
  have zn7 : n0 ≤ h7.size := by rw [W7.size]; exact zn5
  refine w_aload X7 hx (hb hby at_38) (pc' := 40) rfl rfl rfl ?_
  refine w_iconst (v := 3) X7 hx (hb hby at_40) (pc' := 41) rfl rfl ?_
  refine w_lloadN X7 hx (hb hby at_41) (pc' := 42) rfl rfl ?_
  refine w_bipush (v := 48) X7 hx (hb hby at_42) (pc' := 44) rfl rfl ?_
  refine w_lushr X7 hx (hb hby at_44) (pc' := 45) rfl ?_
  refine w_l2i X7 hx (hb hby at_45) (pc' := 46) rfl ?_
  refine w_callS (argsL := [(.int (jlushr x0 (48 : Int32)).toInt32)]) (rest := [(.int (3 : Int32)), (.ref b1)]) X7 hx hZ hown e7 (rm1 l Z a0 hw (jlushr x0 (48 : Int32)).toInt32 h7 n0) (hw _ (List.mem_of_getElem? (i := 1) rfl)) (hw _ (List.mem_of_getElem? (i := 2) rfl)) (hw _ (List.mem_of_getElem? (i := 3) rfl)) (hw _ (List.mem_of_getElem? (i := 4) rfl)) (by decide) (by decide) (W := 2) (by decide) (by decide) (by decide) (by rw [hml]; rfl) (lenOf pd_0 rfl) (Nat.le_refl _) rfl (hb hby at_46) (pc' := 49) rfl (fun T8 L8 v8 X8 hQ8 => ?_)
  obtain ⟨rfl, N8q, e8⟩ := hQ8
  have N8 := Fr.app N7 N8q
  have X8 : Stand p l e room_1 s m _ below meth c T8 _ 1 4 := X8
  show Go p e below s room_1.cells room_1.slots (QL (some (.int 1)) n0) T8 (mkF m 49 #[.val (.long x0), .second, .val (.int x1), .val (.int x2), .val (.int x3), .val (.ref b1), .unset, .unset, .unset, .unset, .unset, .unset] [(.int (K1_0 (jlushr x0 (48 : Int32)).toInt32)), (.int (3 : Int32)), (.ref b1)])
  refine w_bastore X8 hx hZ e8 V7 (by decide) (by show _ < 4; decide) (hb hby at_49) (pc' := 50) rfl (fun T9 h9 X9 e9 W9 V9 => ?_)
  have qv9 : (nar .byte (K1_0 (jlushr x0 (48 : Int32)).toInt32)) = (K1_0 (jlushr x0 (48 : Int32)).toInt32) := own_pk _
  rw [qv9] at V9
  have V9 : AI Z h9 b1 .byte [(K1_0 x0.toInt32), (K1_0 (jlushr x0 (16 : Int32)).toInt32), (K1_0 (jlushr x0 (32 : Int32)).toInt32), (K1_0 (jlushr x0 (48 : Int32)).toInt32)] := V9
  have N9 := Fr.snoc X9 N8 g_b1
  have zn9 : n0 ≤ h9.size := by rw [W9.size]; exact zn7
  refine w_iloadN X9 hx (hb hby at_50) (pc' := 51) rfl rfl ?_
  refine w_ldc X9 hx hZ hown (hw _ (List.mem_of_getElem? (i := 5) rfl)) (hb hby at_51) (pc' := 53) rfl ?_
  refine w_iand X9 hx (hb hby at_53) (pc' := 54) rfl ?_
  refine w_iconst (v := 5) X9 hx (hb hby at_54) (pc' := 55) rfl rfl ?_
  refine w_irem X9 hx (hb hby at_55) (pc' := 56) rfl (by decide) ?_
  refine w_istore (Ls' := #[.val (.long x0), .second, .val (.int x1), .val (.int x2), .val (.int x3), .val (.ref b1), .val (.int ((x1 &&& (2147483647 : Int32)) % (5 : Int32))), .unset, .unset, .unset, .unset, .unset]) X9 hx (hb hby at_56) (pc' := 58) rfl rfl ?_
  obtain ⟨xx, hxx⟩ : ∃ z : Int32, z = ((x1 &&& (2147483647 : Int32)) % (5 : Int32)) := ⟨_, rfl⟩
  rw [← hxx]
  refine w_iloadN X9 hx (hb hby at_58) (pc' := 59) rfl rfl ?_
  refine w_ldc X9 hx hZ hown (hw _ (List.mem_of_getElem? (i := 5) rfl)) (hb hby at_59) (pc' := 61) rfl ?_
  refine w_iand X9 hx (hb hby at_61) (pc' := 62) rfl ?_
  refine w_iconst (v := 5) X9 hx (hb hby at_62) (pc' := 63) rfl rfl ?_
  refine w_irem X9 hx (hb hby at_63) (pc' := 64) rfl (by decide) ?_
  refine w_istore (Ls' := #[.val (.long x0), .second, .val (.int x1), .val (.int x2), .val (.int x3), .val (.ref b1), .val (.int xx), .val (.int ((x2 &&& (2147483647 : Int32)) % (5 : Int32))), .unset, .unset, .unset, .unset]) X9 hx (hb hby at_64) (pc' := 66) rfl rfl ?_
  obtain ⟨yy, hyy⟩ : ∃ z : Int32, z = ((x2 &&& (2147483647 : Int32)) % (5 : Int32)) := ⟨_, rfl⟩
  rw [← hyy]
  refine w_iload X9 hx (hb hby at_66) (pc' := 68) rfl rfl ?_
  refine w_iload X9 hx (hb hby at_68) (pc' := 70) rfl rfl ?_
  refine w_callS (argsL := [(.int xx), (.int yy)]) (rest := []) X9 hx hZ hown e9 (rm2 l Z a0 hw xx yy h9 n0) (hw _ (List.mem_of_getElem? (i := 6) rfl)) (hw _ (List.mem_of_getElem? (i := 7) rfl)) (hw _ (List.mem_of_getElem? (i := 8) rfl)) (hw _ (List.mem_of_getElem? (i := 9) rfl)) (by decide) (by decide) (W := 0) (by decide) (by decide) (by decide) (by rw [hml]; rfl) (lenOf pd_1 rfl) (Nat.le_refl _) rfl (hb hby at_70) (pc' := 73) rfl (fun T10 L10 v10 X10 hQ10 => ?_)
  obtain ⟨rfl, N10q, e10⟩ := hQ10
  have N10 := Fr.app N9 N10q
  have X10 : Stand p l e room_1 s m _ below meth c T10 _ 1 4 := X10
  show Go p e below s room_1.cells room_1.slots (QL (some (.int 1)) n0) T10 (mkF m 73 #[.val (.long x0), .second, .val (.int x1), .val (.int x2), .val (.int x3), .val (.ref b1), .val (.int xx), .val (.int yy), .unset, .unset, .unset, .unset] [(.int (K2_0 xx yy))])
  refine w_istore (Ls' := #[.val (.long x0), .second, .val (.int x1), .val (.int x2), .val (.int x3), .val (.ref b1), .val (.int xx), .val (.int yy), .val (.int (K2_0 xx yy)), .unset, .unset, .unset]) X10 hx (hb hby at_73) (pc' := 75) rfl rfl ?_
  obtain ⟨sa, hsa⟩ : ∃ z : Int32, z = (K2_0 xx yy) := ⟨_, rfl⟩
  rw [← hsa]
  refine w_iload X10 hx (hb hby at_75) (pc' := 77) rfl rfl ?_
  refine w_iload X10 hx (hb hby at_77) (pc' := 79) rfl rfl ?_
  refine w_callS (argsL := [(.int xx), (.int yy)]) (rest := []) X10 hx hZ hown e10 (rm3 l Z a0 hw xx yy h9 n0) (hw _ (List.mem_of_getElem? (i := 10) rfl)) (hw _ (List.mem_of_getElem? (i := 11) rfl)) (hw _ (List.mem_of_getElem? (i := 8) rfl)) (hw _ (List.mem_of_getElem? (i := 12) rfl)) (by decide) (by decide) (W := 0) (by decide) (by decide) (by decide) (by rw [hml]; rfl) (lenOf pd_1 rfl) (Nat.le_refl _) rfl (hb hby at_79) (pc' := 82) rfl (fun T11 L11 v11 X11 hQ11 => ?_)
  obtain ⟨rfl, N11q, e11⟩ := hQ11
  have N11 := Fr.app N10 N11q
  have X11 : Stand p l e room_1 s m _ below meth c T11 _ 1 4 := X11
  show Go p e below s room_1.cells room_1.slots (QL (some (.int 1)) n0) T11 (mkF m 82 #[.val (.long x0), .second, .val (.int x1), .val (.int x2), .val (.int x3), .val (.ref b1), .val (.int xx), .val (.int yy), .val (.int sa), .unset, .unset, .unset] [(.int (K3_0 xx yy))])
  refine w_istore (Ls' := #[.val (.long x0), .second, .val (.int x1), .val (.int x2), .val (.int x3), .val (.ref b1), .val (.int xx), .val (.int yy), .val (.int sa), .val (.int (K3_0 xx yy)), .unset, .unset]) X11 hx (hb hby at_82) (pc' := 84) rfl rfl ?_
  obtain ⟨sb, hsb⟩ : ∃ z : Int32, z = (K3_0 xx yy) := ⟨_, rfl⟩
  rw [← hsb]
  obtain ⟨na, nb, ea, eb, hab, hb4⟩ := own_ab hxx hyy hsa hsb
  rw [ea, eb]
  refine w_iload X11 hx (hb hby at_84) (pc' := 86) rfl rfl ?_
  refine w_iconst (v := 1) X11 hx (hb hby at_86) (pc' := 87) rfl rfl ?_
  refine w_iand X11 hx (hb hby at_87) (pc' := 88) rfl ?_
  have J96_13 : ∀ (v12 : Int32), v12 = (if (x3 &&& (1 : Int32)) = (0 : Int32) then (0 : Int32) else (1 : Int32)) → Go p e below s room_1.cells room_1.slots (QL (some (.int 1)) n0) T11 (mkF m 96 #[.val (.long x0), .second, .val (.int x1), .val (.int x2), .val (.int x3), .val (.ref b1), .val (.int xx), .val (.int yy), .val (.int na.toInt32), .val (.int nb.toInt32), .unset, .unset] [(.int v12)]) := by
    intro v12 hv12
    refine w_istore (Ls' := #[.val (.long x0), .second, .val (.int x1), .val (.int x2), .val (.int x3), .val (.ref b1), .val (.int xx), .val (.int yy), .val (.int na.toInt32), .val (.int nb.toInt32), .val (.int v12), .unset]) X11 hx (hb hby at_96) (pc' := 98) rfl rfl ?_
    refine w_aload X11 hx (hb hby at_98) (pc' := 100) rfl rfl rfl ?_
    refine w_iconst (v := 0) X11 hx (hb hby at_100) (pc' := 101) rfl rfl ?_
    refine w_iload X11 hx (hb hby at_101) (pc' := 103) rfl rfl ?_
    refine w_iload X11 hx (hb hby at_103) (pc' := 105) rfl rfl ?_
    refine w_iload X11 hx (hb hby at_105) (pc' := 107) rfl rfl ?_
    refine w_callS (argsL := [(.ref b1), (.int (0 : Int32)), (.int na.toInt32), (.int nb.toInt32), (.int v12)]) (rest := []) X11 hx hZ hown e11 (rm4 l Z a0 hw b1 (0 : Int32) na.toInt32 nb.toInt32 v12 h9 n0 [(K1_0 x0.toInt32), (K1_0 (jlushr x0 (16 : Int32)).toInt32), (K1_0 (jlushr x0 (32 : Int32)).toInt32), (K1_0 (jlushr x0 (48 : Int32)).toInt32)] V9 (by decide) (by show _ < 4; decide)) (hw _ (List.mem_of_getElem? (i := 13) rfl)) (hw _ (List.mem_of_getElem? (i := 14) rfl)) (hw _ (List.mem_of_getElem? (i := 3) rfl)) (hw _ (List.mem_of_getElem? (i := 15) rfl)) (by decide) (by decide) (W := 0) (by decide) (by decide) (by decide) (by rw [hml]; rfl) (lenOf pd_2 rfl) (Nat.le_refl _) rfl (hb hby at_107) (pc' := 110) rfl (fun T14 L14 v14 X14 hQ14 => ?_)
    obtain ⟨rfl, N14q, e14⟩ := hQ14
    have N14 := Fr.app N11 N14q
    have X14 : Stand p l e room_1 s m _ below meth c T14 _ 1 4 := X14
    show Go p e below s room_1.cells room_1.slots (QL (some (.int 1)) n0) T14 (mkF m 110 #[.val (.long x0), .second, .val (.int x1), .val (.int x2), .val (.int x3), .val (.ref b1), .val (.int xx), .val (.int yy), .val (.int na.toInt32), .val (.int nb.toInt32), .val (.int v12), .unset] [(.int (K4_0 [(K1_0 x0.toInt32), (K1_0 (jlushr x0 (16 : Int32)).toInt32), (K1_0 (jlushr x0 (32 : Int32)).toInt32), (K1_0 (jlushr x0 (48 : Int32)).toInt32)] (0 : Int32) na.toInt32 nb.toInt32 v12))])
    have J163_19 : ∀ (T20 : State) (L20 : List Loc) (X20 : Stand p l e room_1 s m #[(.long x0), (.int x1), (.int x2), (.int x3)] below meth c T20 L20 1 4) (e20 : T20.heap = h9) (N20 : Fr n0 L20) (v18 : Int32), v18 = (if (K4_0 [(K1_0 x0.toInt32), (K1_0 (jlushr x0 (16 : Int32)).toInt32), (K1_0 (jlushr x0 (32 : Int32)).toInt32), (K1_0 (jlushr x0 (48 : Int32)).toInt32)] (0 : Int32) na.toInt32 nb.toInt32 v12) = (0 : Int32) then (0 : Int32) else (if (K4_0 [(K1_0 x0.toInt32), (K1_0 (jlushr x0 (16 : Int32)).toInt32), (K1_0 (jlushr x0 (32 : Int32)).toInt32), (K1_0 (jlushr x0 (48 : Int32)).toInt32)] (1 : Int32) na.toInt32 nb.toInt32 v12) = (0 : Int32) then (0 : Int32) else (if (K4_0 [(K1_0 x0.toInt32), (K1_0 (jlushr x0 (16 : Int32)).toInt32), (K1_0 (jlushr x0 (32 : Int32)).toInt32), (K1_0 (jlushr x0 (48 : Int32)).toInt32)] (2 : Int32) na.toInt32 nb.toInt32 v12) = (0 : Int32) then (0 : Int32) else (if (K4_0 [(K1_0 x0.toInt32), (K1_0 (jlushr x0 (16 : Int32)).toInt32), (K1_0 (jlushr x0 (32 : Int32)).toInt32), (K1_0 (jlushr x0 (48 : Int32)).toInt32)] (3 : Int32) na.toInt32 nb.toInt32 v12) = (0 : Int32) then (0 : Int32) else (1 : Int32))))) → Go p e below s room_1.cells room_1.slots (QL (some (.int 1)) n0) T20 (mkF m 163 #[.val (.long x0), .second, .val (.int x1), .val (.int x2), .val (.int x3), .val (.ref b1), .val (.int xx), .val (.int yy), .val (.int na.toInt32), .val (.int nb.toInt32), .val (.int v12), .unset] [(.int v18)]) := by
      intro T20 L20 X20 e20 N20 v18 hv18
      refine w_istore (Ls' := #[.val (.long x0), .second, .val (.int x1), .val (.int x2), .val (.int x3), .val (.ref b1), .val (.int xx), .val (.int yy), .val (.int na.toInt32), .val (.int nb.toInt32), .val (.int v12), .val (.int v18)]) X20 hx (hb hby at_163) (pc' := 165) rfl rfl ?_
      refine w_aload X20 hx (hb hby at_165) (pc' := 167) rfl rfl rfl ?_
      refine w_iload X20 hx (hb hby at_167) (pc' := 169) rfl rfl ?_
      refine w_iload X20 hx (hb hby at_169) (pc' := 171) rfl rfl ?_
      refine w_iload X20 hx (hb hby at_171) (pc' := 173) rfl rfl ?_
      refine w_callS (argsL := [(.ref b1), (.int na.toInt32), (.int nb.toInt32), (.int v12)]) (rest := []) X20 hx hZ hown e20 (rm5 l Z a0 hw b1 na nb v12 h9 n0 [(K1_0 x0.toInt32), (K1_0 (jlushr x0 (16 : Int32)).toInt32), (K1_0 (jlushr x0 (32 : Int32)).toInt32), (K1_0 (jlushr x0 (48 : Int32)).toInt32)] V9 hab hb4) (hw _ (List.mem_of_getElem? (i := 16) rfl)) (hw _ (List.mem_of_getElem? (i := 17) rfl)) (hw _ (List.mem_of_getElem? (i := 18) rfl)) (hw _ (List.mem_of_getElem? (i := 19) rfl)) (by decide) (by decide) (W := 0) (by decide) (by decide) (by decide) (by rw [hml]; rfl) (lenOf pd_3 rfl) (Nat.le_refl _) rfl (hb hby at_173) (pc' := 176) rfl (fun T21 L21 v21 X21 hQ21 => ?_)
      obtain ⟨rfl, N21q, e21⟩ := hQ21
      have N21 := Fr.app N20 N21q
      have X21 : Stand p l e room_1 s m _ below meth c T21 _ 1 4 := X21
      show Go p e below s room_1.cells room_1.slots (QL (some (.int 1)) n0) T21 (mkF m 176 #[.val (.long x0), .second, .val (.int x1), .val (.int x2), .val (.int x3), .val (.ref b1), .val (.int xx), .val (.int yy), .val (.int na.toInt32), .val (.int nb.toInt32), .val (.int v12), .val (.int v18)] [(.int (own_is [(K1_0 x0.toInt32), (K1_0 (jlushr x0 (16 : Int32)).toInt32), (K1_0 (jlushr x0 (32 : Int32)).toInt32), (K1_0 (jlushr x0 (48 : Int32)).toInt32)] na nb v12))])
      refine w_iload X21 hx (hb hby at_176) (pc' := 178) rfl rfl ?_
      have hf178 : (own_is [(K1_0 x0.toInt32), (K1_0 (jlushr x0 (16 : Int32)).toInt32), (K1_0 (jlushr x0 (32 : Int32)).toInt32), (K1_0 (jlushr x0 (48 : Int32)).toInt32)] na nb v12) = v18 := own_law hab hb4 hv18
      refine w_icmp_ne X21 hx (hb hby at_178) (pf := 181) (pt := 185) rfl (by decide) (by decide) (fun hc => absurd hf178 hc) (fun hc178 => ?_)
      refine w_iconst (v := 1) X21 hx (hb hby at_181) (pc' := 182) rfl rfl ?_
      refine w_goto X21 hx (hb hby at_182) (pc' := 186) (by decide) (by decide) ?_
      exact w_retZ X21 hx hret hlk (hb hby at_186) (by decide) (by decide) ⟨rfl, N21⟩
    refine w_if_eq X14 hx (hb hby at_110) (pf := 113) (pt := 162) rfl (by decide) (by decide) (fun hc110 => ?_) (fun hc110 => ?_)
    · refine w_iconst (v := 0) X14 hx (hb hby at_162) (pc' := 163) rfl rfl ?_
      exact J163_19 _ _ X14 e14 N14 ((0 : Int32)) (by rw [if_pos (show (K4_0 [(K1_0 x0.toInt32), (K1_0 (jlushr x0 (16 : Int32)).toInt32), (K1_0 (jlushr x0 (32 : Int32)).toInt32), (K1_0 (jlushr x0 (48 : Int32)).toInt32)] (0 : Int32) na.toInt32 nb.toInt32 v12) = (0 : Int32) from (by assumption))])
    · refine w_aload X14 hx (hb hby at_113) (pc' := 115) rfl rfl rfl ?_
      refine w_iconst (v := 1) X14 hx (hb hby at_115) (pc' := 116) rfl rfl ?_
      refine w_iload X14 hx (hb hby at_116) (pc' := 118) rfl rfl ?_
      refine w_iload X14 hx (hb hby at_118) (pc' := 120) rfl rfl ?_
      refine w_iload X14 hx (hb hby at_120) (pc' := 122) rfl rfl ?_
      refine w_callS (argsL := [(.ref b1), (.int (1 : Int32)), (.int na.toInt32), (.int nb.toInt32), (.int v12)]) (rest := []) X14 hx hZ hown e14 (rm4 l Z a0 hw b1 (1 : Int32) na.toInt32 nb.toInt32 v12 h9 n0 [(K1_0 x0.toInt32), (K1_0 (jlushr x0 (16 : Int32)).toInt32), (K1_0 (jlushr x0 (32 : Int32)).toInt32), (K1_0 (jlushr x0 (48 : Int32)).toInt32)] V9 (by decide) (by show _ < 4; decide)) (hw _ (List.mem_of_getElem? (i := 13) rfl)) (hw _ (List.mem_of_getElem? (i := 14) rfl)) (hw _ (List.mem_of_getElem? (i := 3) rfl)) (hw _ (List.mem_of_getElem? (i := 15) rfl)) (by decide) (by decide) (W := 0) (by decide) (by decide) (by decide) (by rw [hml]; rfl) (lenOf pd_2 rfl) (Nat.le_refl _) rfl (hb hby at_122) (pc' := 125) rfl (fun T15 L15 v15 X15 hQ15 => ?_)
      obtain ⟨rfl, N15q, e15⟩ := hQ15
      have N15 := Fr.app N14 N15q
      have X15 : Stand p l e room_1 s m _ below meth c T15 _ 1 4 := X15
      show Go p e below s room_1.cells room_1.slots (QL (some (.int 1)) n0) T15 (mkF m 125 #[.val (.long x0), .second, .val (.int x1), .val (.int x2), .val (.int x3), .val (.ref b1), .val (.int xx), .val (.int yy), .val (.int na.toInt32), .val (.int nb.toInt32), .val (.int v12), .unset] [(.int (K4_0 [(K1_0 x0.toInt32), (K1_0 (jlushr x0 (16 : Int32)).toInt32), (K1_0 (jlushr x0 (32 : Int32)).toInt32), (K1_0 (jlushr x0 (48 : Int32)).toInt32)] (1 : Int32) na.toInt32 nb.toInt32 v12))])
      refine w_if_eq X15 hx (hb hby at_125) (pf := 128) (pt := 162) rfl (by decide) (by decide) (fun hc125 => ?_) (fun hc125 => ?_)
      · refine w_iconst (v := 0) X15 hx (hb hby at_162) (pc' := 163) rfl rfl ?_
        exact J163_19 _ _ X15 e15 N15 ((0 : Int32)) (by rw [if_neg (show ¬ ((K4_0 [(K1_0 x0.toInt32), (K1_0 (jlushr x0 (16 : Int32)).toInt32), (K1_0 (jlushr x0 (32 : Int32)).toInt32), (K1_0 (jlushr x0 (48 : Int32)).toInt32)] (0 : Int32) na.toInt32 nb.toInt32 v12) = (0 : Int32)) from (by assumption)), if_pos (show (K4_0 [(K1_0 x0.toInt32), (K1_0 (jlushr x0 (16 : Int32)).toInt32), (K1_0 (jlushr x0 (32 : Int32)).toInt32), (K1_0 (jlushr x0 (48 : Int32)).toInt32)] (1 : Int32) na.toInt32 nb.toInt32 v12) = (0 : Int32) from (by assumption))])
      · refine w_aload X15 hx (hb hby at_128) (pc' := 130) rfl rfl rfl ?_
        refine w_iconst (v := 2) X15 hx (hb hby at_130) (pc' := 131) rfl rfl ?_
        refine w_iload X15 hx (hb hby at_131) (pc' := 133) rfl rfl ?_
        refine w_iload X15 hx (hb hby at_133) (pc' := 135) rfl rfl ?_
        refine w_iload X15 hx (hb hby at_135) (pc' := 137) rfl rfl ?_
        refine w_callS (argsL := [(.ref b1), (.int (2 : Int32)), (.int na.toInt32), (.int nb.toInt32), (.int v12)]) (rest := []) X15 hx hZ hown e15 (rm4 l Z a0 hw b1 (2 : Int32) na.toInt32 nb.toInt32 v12 h9 n0 [(K1_0 x0.toInt32), (K1_0 (jlushr x0 (16 : Int32)).toInt32), (K1_0 (jlushr x0 (32 : Int32)).toInt32), (K1_0 (jlushr x0 (48 : Int32)).toInt32)] V9 (by decide) (by show _ < 4; decide)) (hw _ (List.mem_of_getElem? (i := 13) rfl)) (hw _ (List.mem_of_getElem? (i := 14) rfl)) (hw _ (List.mem_of_getElem? (i := 3) rfl)) (hw _ (List.mem_of_getElem? (i := 15) rfl)) (by decide) (by decide) (W := 0) (by decide) (by decide) (by decide) (by rw [hml]; rfl) (lenOf pd_2 rfl) (Nat.le_refl _) rfl (hb hby at_137) (pc' := 140) rfl (fun T16 L16 v16 X16 hQ16 => ?_)
        obtain ⟨rfl, N16q, e16⟩ := hQ16
        have N16 := Fr.app N15 N16q
        have X16 : Stand p l e room_1 s m _ below meth c T16 _ 1 4 := X16
        show Go p e below s room_1.cells room_1.slots (QL (some (.int 1)) n0) T16 (mkF m 140 #[.val (.long x0), .second, .val (.int x1), .val (.int x2), .val (.int x3), .val (.ref b1), .val (.int xx), .val (.int yy), .val (.int na.toInt32), .val (.int nb.toInt32), .val (.int v12), .unset] [(.int (K4_0 [(K1_0 x0.toInt32), (K1_0 (jlushr x0 (16 : Int32)).toInt32), (K1_0 (jlushr x0 (32 : Int32)).toInt32), (K1_0 (jlushr x0 (48 : Int32)).toInt32)] (2 : Int32) na.toInt32 nb.toInt32 v12))])
        refine w_if_eq X16 hx (hb hby at_140) (pf := 143) (pt := 162) rfl (by decide) (by decide) (fun hc140 => ?_) (fun hc140 => ?_)
        · refine w_iconst (v := 0) X16 hx (hb hby at_162) (pc' := 163) rfl rfl ?_
          exact J163_19 _ _ X16 e16 N16 ((0 : Int32)) (by rw [if_neg (show ¬ ((K4_0 [(K1_0 x0.toInt32), (K1_0 (jlushr x0 (16 : Int32)).toInt32), (K1_0 (jlushr x0 (32 : Int32)).toInt32), (K1_0 (jlushr x0 (48 : Int32)).toInt32)] (0 : Int32) na.toInt32 nb.toInt32 v12) = (0 : Int32)) from (by assumption)), if_neg (show ¬ ((K4_0 [(K1_0 x0.toInt32), (K1_0 (jlushr x0 (16 : Int32)).toInt32), (K1_0 (jlushr x0 (32 : Int32)).toInt32), (K1_0 (jlushr x0 (48 : Int32)).toInt32)] (1 : Int32) na.toInt32 nb.toInt32 v12) = (0 : Int32)) from (by assumption)), if_pos (show (K4_0 [(K1_0 x0.toInt32), (K1_0 (jlushr x0 (16 : Int32)).toInt32), (K1_0 (jlushr x0 (32 : Int32)).toInt32), (K1_0 (jlushr x0 (48 : Int32)).toInt32)] (2 : Int32) na.toInt32 nb.toInt32 v12) = (0 : Int32) from (by assumption))])
        · refine w_aload X16 hx (hb hby at_143) (pc' := 145) rfl rfl rfl ?_
          refine w_iconst (v := 3) X16 hx (hb hby at_145) (pc' := 146) rfl rfl ?_
          refine w_iload X16 hx (hb hby at_146) (pc' := 148) rfl rfl ?_
          refine w_iload X16 hx (hb hby at_148) (pc' := 150) rfl rfl ?_
          refine w_iload X16 hx (hb hby at_150) (pc' := 152) rfl rfl ?_
          refine w_callS (argsL := [(.ref b1), (.int (3 : Int32)), (.int na.toInt32), (.int nb.toInt32), (.int v12)]) (rest := []) X16 hx hZ hown e16 (rm4 l Z a0 hw b1 (3 : Int32) na.toInt32 nb.toInt32 v12 h9 n0 [(K1_0 x0.toInt32), (K1_0 (jlushr x0 (16 : Int32)).toInt32), (K1_0 (jlushr x0 (32 : Int32)).toInt32), (K1_0 (jlushr x0 (48 : Int32)).toInt32)] V9 (by decide) (by show _ < 4; decide)) (hw _ (List.mem_of_getElem? (i := 13) rfl)) (hw _ (List.mem_of_getElem? (i := 14) rfl)) (hw _ (List.mem_of_getElem? (i := 3) rfl)) (hw _ (List.mem_of_getElem? (i := 15) rfl)) (by decide) (by decide) (W := 0) (by decide) (by decide) (by decide) (by rw [hml]; rfl) (lenOf pd_2 rfl) (Nat.le_refl _) rfl (hb hby at_152) (pc' := 155) rfl (fun T17 L17 v17 X17 hQ17 => ?_)
          obtain ⟨rfl, N17q, e17⟩ := hQ17
          have N17 := Fr.app N16 N17q
          have X17 : Stand p l e room_1 s m _ below meth c T17 _ 1 4 := X17
          show Go p e below s room_1.cells room_1.slots (QL (some (.int 1)) n0) T17 (mkF m 155 #[.val (.long x0), .second, .val (.int x1), .val (.int x2), .val (.int x3), .val (.ref b1), .val (.int xx), .val (.int yy), .val (.int na.toInt32), .val (.int nb.toInt32), .val (.int v12), .unset] [(.int (K4_0 [(K1_0 x0.toInt32), (K1_0 (jlushr x0 (16 : Int32)).toInt32), (K1_0 (jlushr x0 (32 : Int32)).toInt32), (K1_0 (jlushr x0 (48 : Int32)).toInt32)] (3 : Int32) na.toInt32 nb.toInt32 v12))])
          refine w_if_eq X17 hx (hb hby at_155) (pf := 158) (pt := 162) rfl (by decide) (by decide) (fun hc155 => ?_) (fun hc155 => ?_)
          · refine w_iconst (v := 0) X17 hx (hb hby at_162) (pc' := 163) rfl rfl ?_
            exact J163_19 _ _ X17 e17 N17 ((0 : Int32)) (by rw [if_neg (show ¬ ((K4_0 [(K1_0 x0.toInt32), (K1_0 (jlushr x0 (16 : Int32)).toInt32), (K1_0 (jlushr x0 (32 : Int32)).toInt32), (K1_0 (jlushr x0 (48 : Int32)).toInt32)] (0 : Int32) na.toInt32 nb.toInt32 v12) = (0 : Int32)) from (by assumption)), if_neg (show ¬ ((K4_0 [(K1_0 x0.toInt32), (K1_0 (jlushr x0 (16 : Int32)).toInt32), (K1_0 (jlushr x0 (32 : Int32)).toInt32), (K1_0 (jlushr x0 (48 : Int32)).toInt32)] (1 : Int32) na.toInt32 nb.toInt32 v12) = (0 : Int32)) from (by assumption)), if_neg (show ¬ ((K4_0 [(K1_0 x0.toInt32), (K1_0 (jlushr x0 (16 : Int32)).toInt32), (K1_0 (jlushr x0 (32 : Int32)).toInt32), (K1_0 (jlushr x0 (48 : Int32)).toInt32)] (2 : Int32) na.toInt32 nb.toInt32 v12) = (0 : Int32)) from (by assumption)), if_pos (show (K4_0 [(K1_0 x0.toInt32), (K1_0 (jlushr x0 (16 : Int32)).toInt32), (K1_0 (jlushr x0 (32 : Int32)).toInt32), (K1_0 (jlushr x0 (48 : Int32)).toInt32)] (3 : Int32) na.toInt32 nb.toInt32 v12) = (0 : Int32) from (by assumption))])
          · refine w_iconst (v := 1) X17 hx (hb hby at_158) (pc' := 159) rfl rfl ?_
            refine w_goto X17 hx (hb hby at_159) (pc' := 163) (by decide) (by decide) ?_
            exact J163_19 _ _ X17 e17 N17 ((1 : Int32)) (by rw [if_neg (show ¬ ((K4_0 [(K1_0 x0.toInt32), (K1_0 (jlushr x0 (16 : Int32)).toInt32), (K1_0 (jlushr x0 (32 : Int32)).toInt32), (K1_0 (jlushr x0 (48 : Int32)).toInt32)] (0 : Int32) na.toInt32 nb.toInt32 v12) = (0 : Int32)) from (by assumption)), if_neg (show ¬ ((K4_0 [(K1_0 x0.toInt32), (K1_0 (jlushr x0 (16 : Int32)).toInt32), (K1_0 (jlushr x0 (32 : Int32)).toInt32), (K1_0 (jlushr x0 (48 : Int32)).toInt32)] (1 : Int32) na.toInt32 nb.toInt32 v12) = (0 : Int32)) from (by assumption)), if_neg (show ¬ ((K4_0 [(K1_0 x0.toInt32), (K1_0 (jlushr x0 (16 : Int32)).toInt32), (K1_0 (jlushr x0 (32 : Int32)).toInt32), (K1_0 (jlushr x0 (48 : Int32)).toInt32)] (2 : Int32) na.toInt32 nb.toInt32 v12) = (0 : Int32)) from (by assumption)), if_neg (show ¬ ((K4_0 [(K1_0 x0.toInt32), (K1_0 (jlushr x0 (16 : Int32)).toInt32), (K1_0 (jlushr x0 (32 : Int32)).toInt32), (K1_0 (jlushr x0 (48 : Int32)).toInt32)] (3 : Int32) na.toInt32 nb.toInt32 v12) = (0 : Int32)) from (by assumption))])
  refine w_if_eq X11 hx (hb hby at_88) (pf := 91) (pt := 95) rfl (by decide) (by decide) (fun hc88 => ?_) (fun hc88 => ?_)
  · refine w_iconst (v := 0) X11 hx (hb hby at_95) (pc' := 96) rfl rfl ?_
    exact J96_13 ((0 : Int32)) (by rw [if_pos (show (x3 &&& (1 : Int32)) = (0 : Int32) from (by assumption))])
  · refine w_iconst (v := 1) X11 hx (hb hby at_91) (pc' := 92) rfl rfl ?_
    refine w_goto X11 hx (hb hby at_92) (pc' := 96) (by decide) (by decide) ?_
    exact J96_13 ((1 : Int32)) (by rw [if_neg (show ¬ ((x3 &&& (1 : Int32)) = (0 : Int32)) from (by assumption))])
set_option maxRecDepth 65536 in
set_option maxHeartbeats 40000000 in
theorem comes_1 {Post : Tables → Env → Array Value → State → Outcome → State → Prop} (hpost : ∀ tb e args s v u, (limb_1_1.after args s (.returned v) u = true ∧ limb_1_2.after args s (.returned v) u = true ∧ True) → FrameEnd s (.returned v) u (Jvm.fieldLocs frame_1_writes args s ++ Jvm.arrayLocs frame_1_arrays args s ++ Jvm.staticLocs frame_1_statics s) 16 128 → Post tb e args s (.returned v) u) :
    ArmFor flags0 classFile x code maxLocals ret World_1 tables_1 room_1 Calls_1 rest_1 Pre_1 Post := by
  intro l hfl _ _ p e ha hc hk s m args below hf hA hF happ hP
  obtain ⟨hcalls, hrest, hpre⟩ := hP
  obtain ⟨-, -, -, hnamed, -, -, -, hat⟩ := (Spec.applies_iff hf).mp happ
  obtain ⟨hg, hn⟩ := and_e (Cond.before_iff.mp (show (Jvm.Cond.and given_1 narrow_1).before args s = true from hpre))
  obtain ⟨g1, g2⟩ := and_e hg
  obtain ⟨g3, g4⟩ := and_e g2
  obtain ⟨g5, g6⟩ := and_e g4
  obtain ⟨g7, g8⟩ := and_e g6
  obtain ⟨w0, w1, w2, w3, rfl⟩ : ∃ w0 w1 w2 w3 : Value, args = #[w0, w1, w2, w3] := by
    have hs : args.size = 4 := by simpa [Cond.value, given_1] using g1
    obtain ⟨L⟩ := args
    match L, hs with
    | [w0, w1, w2, w3], _ => exact ⟨w0, w1, w2, w3, rfl⟩
  have hw := fun d (hd : d ∈ tables_1) => atoms_spec (ws := Jvm.Cond.code x code maxLocals ret :: tables_1) hat d (List.mem_cons_of_mem _ hd)
  obtain ⟨i0, ei0⟩ := isL_v g3
  obtain rfl : w0 = (.long i0) := Option.some.inj ei0
  obtain ⟨i1, ei1⟩ := is_v g5
  obtain rfl : w1 = (.int i1) := Option.some.inj ei1
  obtain ⟨i2, ei2⟩ := is_v g7
  obtain rfl : w2 = (.int i2) := Option.some.inj ei2
  obtain ⟨i3, ei3⟩ := is_v g8
  obtain rfl : w3 = (.int i3) := Option.some.inj ei3
  have C := rm0 l s _ hw i0 i1 i2 i3 s.heap s.heap.size (Nat.le_refl _)
  obtain ⟨n, o, h1, h2, h3, v, L, rfl, ⟨rfl, N⟩, hq⟩ := C tables_1 p e ha hc hk s m _ below hf ((Spec.applies_iff_loose hf).mp happ).1 ⟨rfl, State.Warmed39.refl s, rfl⟩ trivial
  refine ⟨n, _, h1, h2, h3, hpost _ _ _ _ _ _ ⟨Cond.after_iff.mpr rfl, Cond.after_iff.mpr (eq_i res_at (Term.int_eval (1)) rfl), trivial⟩ ⟨hq.1, hq.2.1, (hq.2.2.sift fun y hy => Or.inr (N y hy)).mono (by decide) (by decide)⟩⟩
theorem main_1_1 : Claimed_1_1 := comes_1 fun _ _ _ _ _ _ h hF => ⟨h.1, hF⟩
theorem main_1_2 : Claimed_1_2 := comes_1 fun _ _ _ _ _ _ h hF => ⟨h.2.1, hF⟩
end Jvm.Pilot.@@N@@
namespace Jvm.Pilot.@@N@@
open Jvm Jvm.ClassFile Sem Op Lib Jvm.Free Jvm.Stand Jvm.Pilot.@@N@@.Jvm.D
/-! MADE BY PROGRAM (witnessworld.py) out of the Statement's table words and the real class files: 10 classes; the members and pool entries that the words name. The judged class is class 1, her method 1. -/
namespace start1
open Jvm.ClassFile
def u (s : String) : CpInfo := .utf8 (stringToUtf16 s)
/-- a pool by its gaps: so many unusable entries, then the entry; so many at the end -/
def gap : Nat → List CpInfo → List CpInfo
  | 0, r => r
  | n + 1, r => .unusable :: gap n r
def poolList (es : List (Nat × CpInfo)) (last : Nat) : List CpInfo := es.foldr (fun e r => gap e.1 (e.2 :: r)) (gap last [])
def pool (es : List (Nat × CpInfo)) (last : Nat) : Array CpInfo := ⟨poolList es last⟩
def fileOf (pool : Array CpInfo) (this : Nat) (attrs : Array Attribute := #[]) (ms : Array MethodInfo := #[]) (fl : Nat := 33) (sup : Nat := 0) (ifs : Array Nat := #[]) (fds : Array FieldInfo := #[]) : ClassFile where
  minorVersion := 0
  majorVersion := 65
  constantPool := pool
  accessFlags := fl
  thisClass := this
  superClass := sup
  interfaces := ifs
  fields := fds
  methods := ms
  attributes := attrs
def plain (name : String) (sup : Option ClassId) : Class where
  name := name
  kind := .ordinary
  loader := none
  accessFlags := 33
  super := sup
  interfaces := #[]
  cf := none
  fields := #[]
  methods := #[]
  instanceTypes := #[]
  staticTypes := #[]
  resolved := #[]
  callSites := []
  init := .initialized
  statics := none
  mirror := none

def pool0 : Array CpInfo := pool [(5, u "<init>"), (0, u "()V"), (1, .class_ 10), (1, u "java/lang/Object")] 113

def k0m0 : Method := { name := "<init>", desc := "()V", sig := { parameters := [], returnType := none }, accessFlags := 1, code := none }
/-- java/lang/Object -/
def k0 : Class := { plain "java/lang/Object" none with
  accessFlags := 33
  interfaces := #[]
  cf := some (fileOf pool0 8 #[] #[{ accessFlags := 1, nameIndex := 5, descriptorIndex := 6, attributes := #[] }] 33 0 #[] #[])
  fields := #[]
  methods := #[k0m0]
  instanceTypes := #[]
  staticTypes := #[]
  resolved := Array.replicate 124 none
  statics := none }

def pool1 : Array CpInfo := pool [(2, .class_ 4), (1, u "java/lang/Object"), (0, u "<init>"), (0, u "()V"), (0, .methodref 8 9), (0, .class_ 10), (0, .nameAndType 11 12), (0, u "com/example/feldtafel/feldtafel/LinesIsBlankPinLaw"), (0, u "pick"), (0, u "(I)B"), (0, .integer 2147483647), (0, .methodref 15 16), (0, .class_ 17), (0, .nameAndType 18 19), (0, u "java/lang/Math"), (0, u "min"), (0, u "(II)I"), (0, .methodref 15 21), (0, .nameAndType 22 19), (0, u "max"), (0, .methodref 8 24), (0, .nameAndType 25 26), (0, u "ok"), (0, u "([BIIIZ)Z"), (0, .methodref 28 29), (0, .class_ 30), (0, .nameAndType 31 32), (0, u "com/example/feldtafel/feldtafel/Lines"), (0, u "isBlank"), (0, u "([BIIZ)Z"), (2, u "law"), (0, u "(JIII)Z")] 5

def k1m0 : Method := { name := "<init>", desc := "()V", sig := { parameters := [], returnType := none }, accessFlags := 1, code := none }
def k1c1 : Code := { maxStack := 5, maxLocals := 12, code := code, exceptionTable := #[], attributes := #[] }
def k1m1 : Method := { name := "law", desc := "(JIII)Z", sig := { parameters := [.long, .int, .int, .int], returnType := some .boolean }, accessFlags := 9, code := some k1c1 }
def k1c2 : Code := { maxStack := 2, maxLocals := 2, code := method_3_code, exceptionTable := #[], attributes := #[] }
def k1m2 : Method := { name := "pick", desc := "(I)B", sig := { parameters := [.int], returnType := some .byte }, accessFlags := 10, code := some k1c2 }
def k1c3 : Code := { maxStack := 3, maxLocals := 5, code := method_4_code, exceptionTable := #[], attributes := #[] }
def k1m3 : Method := { name := "ok", desc := "([BIIIZ)Z", sig := { parameters := [(.array .byte), .int, .int, .int, .boolean], returnType := some .boolean }, accessFlags := 10, code := some k1c3 }
/-- com/example/feldtafel/feldtafel/LinesIsBlankPinLaw -/
def k1 : Class := { plain "com/example/feldtafel/feldtafel/LinesIsBlankPinLaw" (some 0) with
  accessFlags := 49
  interfaces := #[]
  cf := some (fileOf pool1 8 #[] #[{ accessFlags := 1, nameIndex := 5, descriptorIndex := 6, attributes := #[] }, { accessFlags := 9, nameIndex := 35, descriptorIndex := 36, attributes := #[] }, { accessFlags := 10, nameIndex := 11, descriptorIndex := 12, attributes := #[] }, { accessFlags := 10, nameIndex := 25, descriptorIndex := 26, attributes := #[] }] 49 2 #[] #[])
  fields := #[]
  methods := #[k1m0, k1m1, k1m2, k1m3]
  instanceTypes := #[]
  staticTypes := #[]
  resolved := Array.replicate 42 none
  statics := none }

def pool2 : Array CpInfo := pool [(1, .class_ 2), (0, u "java/lang/Math"), (1, .class_ 6), (1, u "java/lang/Object"), (0, u "<init>"), (0, u "()V"), (89, .class_ 100), (1, u "java/lang/Math$RandomNumberGeneratorHolder"), (71, u "negativeZeroFloatBits"), (0, u "J"), (2, u "negativeZeroDoubleBits"), (21, u "max"), (2, u "min"), (43, u "$assertionsDisabled"), (0, u "Z"), (88, u "(II)I"), (2, u "twoToTheDoubleScaleDown"), (0, u "D"), (4, u "twoToTheDoubleScaleUp"), (9, u "E"), (3, u "PI"), (2, u "TAU"), (2, u "DEGREES_TO_RADIANS"), (0, u "RADIANS_TO_DEGREES")] 94

def k2m0 : Method := { name := "<init>", desc := "()V", sig := { parameters := [], returnType := none }, accessFlags := 2, code := none }
def k2c1 : Code := { maxStack := 2, maxLocals := 2, code := jdk_29_method_65_code, exceptionTable := #[], attributes := #[] }
def k2m1 : Method := { name := "max", desc := "(II)I", sig := { parameters := [.int, .int], returnType := some .int }, accessFlags := 9, code := some k2c1 }
def k2c2 : Code := { maxStack := 2, maxLocals := 2, code := jdk_29_method_69_code, exceptionTable := #[], attributes := #[] }
def k2m2 : Method := { name := "min", desc := "(II)I", sig := { parameters := [.int, .int], returnType := some .int }, accessFlags := 9, code := some k2c2 }
/-- java/lang/Math -/
def k2 : Class := { plain "java/lang/Math" (some 0) with
  accessFlags := 49
  interfaces := #[]
  cf := some (fileOf pool2 1 #[.nestMembers #[98]] #[{ accessFlags := 2, nameIndex := 7, descriptorIndex := 8, attributes := #[] }, { accessFlags := 9, nameIndex := 198, descriptorIndex := 335, attributes := #[] }, { accessFlags := 9, nameIndex := 201, descriptorIndex := 335, attributes := #[] }] 49 4 #[] #[{ accessFlags := 25, nameIndex := 354, descriptorIndex := 339, attributes := #[] }, { accessFlags := 25, nameIndex := 358, descriptorIndex := 339, attributes := #[] }, { accessFlags := 25, nameIndex := 361, descriptorIndex := 339, attributes := #[] }, { accessFlags := 26, nameIndex := 364, descriptorIndex := 339, attributes := #[] }, { accessFlags := 26, nameIndex := 365, descriptorIndex := 339, attributes := #[] }, { accessFlags := 26, nameIndex := 172, descriptorIndex := 173, attributes := #[] }, { accessFlags := 26, nameIndex := 176, descriptorIndex := 173, attributes := #[] }, { accessFlags := 8, nameIndex := 344, descriptorIndex := 339, attributes := #[] }, { accessFlags := 8, nameIndex := 338, descriptorIndex := 339, attributes := #[] }, { accessFlags := 4120, nameIndex := 245, descriptorIndex := 246, attributes := #[] }])
  fields := #[{ name := "E", type := .double, accessFlags := 25, slot := 0, constantValue := 0 }, { name := "PI", type := .double, accessFlags := 25, slot := 1, constantValue := 0 }, { name := "TAU", type := .double, accessFlags := 25, slot := 2, constantValue := 0 }, { name := "DEGREES_TO_RADIANS", type := .double, accessFlags := 26, slot := 3, constantValue := 0 }, { name := "RADIANS_TO_DEGREES", type := .double, accessFlags := 26, slot := 4, constantValue := 0 }, { name := "negativeZeroFloatBits", type := .long, accessFlags := 26, slot := 5, constantValue := 0 }, { name := "negativeZeroDoubleBits", type := .long, accessFlags := 26, slot := 6, constantValue := 0 }, { name := "twoToTheDoubleScaleUp", type := .double, accessFlags := 8, slot := 7, constantValue := 0 }, { name := "twoToTheDoubleScaleDown", type := .double, accessFlags := 8, slot := 8, constantValue := 0 }, { name := "$assertionsDisabled", type := .boolean, accessFlags := 4120, slot := 9, constantValue := 0 }]
  methods := #[k2m0, k2m1, k2m2]
  instanceTypes := #[]
  staticTypes := #[.double, .double, .double, .double, .double, .long, .long, .double, .double, .boolean]
  resolved := Array.replicate 460 none
  statics := none }

def pool3 : Array CpInfo := pool [(2, .class_ 4), (1, u "java/lang/Object"), (3, .class_ 10), (1, u "com/example/feldtafel/feldtafel/Lines"), (0, u "bytes"), (0, u "[B"), (2, u "starts"), (0, u "[I"), (2, u "ends"), (2, u "tooLong"), (0, u "[Z"), (2, u "before"), (0, u "J"), (2, u "unterminated"), (0, u "Z"), (6, u "malformation"), (0, u "Ljava/lang/String;"), (33, u "read"), (0, u "I"), (23, u "isBlank"), (0, u "([BIIZ)Z"), (2, u "inBlock"), (20, u "NOT_UTF8")] 12

def k3c0 : Code := { maxStack := 3, maxLocals := 6, code := prog_20_method_12_code, exceptionTable := #[], attributes := #[] }
def k3m0 : Method := { name := "isBlank", desc := "([BIIZ)Z", sig := { parameters := [(.array .byte), .int, .int, .boolean], returnType := some .boolean }, accessFlags := 8, code := some k3c0 }
/-- com/example/feldtafel/feldtafel/Lines -/
def k3 : Class := { plain "com/example/feldtafel/feldtafel/Lines" (some 0) with
  accessFlags := 48
  interfaces := #[]
  cf := some (fileOf pool3 8 #[] #[{ accessFlags := 8, nameIndex := 98, descriptorIndex := 99, attributes := #[] }] 48 2 #[] #[{ accessFlags := 24, nameIndex := 123, descriptorIndex := 39, attributes := #[] }, { accessFlags := 18, nameIndex := 11, descriptorIndex := 12, attributes := #[] }, { accessFlags := 18, nameIndex := 15, descriptorIndex := 16, attributes := #[] }, { accessFlags := 18, nameIndex := 19, descriptorIndex := 16, attributes := #[] }, { accessFlags := 18, nameIndex := 22, descriptorIndex := 23, attributes := #[] }, { accessFlags := 18, nameIndex := 26, descriptorIndex := 27, attributes := #[] }, { accessFlags := 18, nameIndex := 30, descriptorIndex := 31, attributes := #[] }, { accessFlags := 2, nameIndex := 73, descriptorIndex := 74, attributes := #[] }, { accessFlags := 2, nameIndex := 38, descriptorIndex := 39, attributes := #[] }, { accessFlags := 2, nameIndex := 102, descriptorIndex := 31, attributes := #[] }])
  fields := #[{ name := "NOT_UTF8", type := (.object "java/lang/String"), accessFlags := 24, slot := 0, constantValue := 0 }, { name := "bytes", type := (.array .byte), accessFlags := 18, slot := 0, constantValue := 0 }, { name := "starts", type := (.array .int), accessFlags := 18, slot := 1, constantValue := 0 }, { name := "ends", type := (.array .int), accessFlags := 18, slot := 2, constantValue := 0 }, { name := "tooLong", type := (.array .boolean), accessFlags := 18, slot := 3, constantValue := 0 }, { name := "before", type := .long, accessFlags := 18, slot := 4, constantValue := 0 }, { name := "unterminated", type := .boolean, accessFlags := 18, slot := 5, constantValue := 0 }, { name := "read", type := .int, accessFlags := 2, slot := 6, constantValue := 0 }, { name := "malformation", type := (.object "java/lang/String"), accessFlags := 2, slot := 7, constantValue := 0 }, { name := "inBlock", type := .boolean, accessFlags := 2, slot := 8, constantValue := 0 }]
  methods := #[k3m0]
  instanceTypes := #[(.array .byte), (.array .int), (.array .int), (.array .boolean), .long, .boolean, .int, (.object "java/lang/String"), .boolean]
  staticTypes := #[(.object "java/lang/String")]
  resolved := Array.replicate 136 none
  statics := none }

def pool4 : Array CpInfo := pool [(1, u "java/lang/Cloneable"), (0, .class_ 1), (0, u "java/lang/Object"), (0, .class_ 3)] 3

/-- java/lang/Cloneable -/
def k4 : Class := { plain "java/lang/Cloneable" (some 0) with
  accessFlags := 1537
  interfaces := #[]
  cf := some (fileOf pool4 2 #[] #[] 1537 4 #[] #[])
  fields := #[]
  methods := #[]
  instanceTypes := #[]
  staticTypes := #[]
  resolved := Array.replicate 8 none
  statics := none }

def pool5 : Array CpInfo := pool [(1, u "java/io/Serializable"), (0, .class_ 1), (0, u "java/lang/Object"), (0, .class_ 3)] 3

/-- java/io/Serializable -/
def k5 : Class := { plain "java/io/Serializable" (some 0) with
  accessFlags := 1537
  interfaces := #[]
  cf := some (fileOf pool5 2 #[] #[] 1537 4 #[] #[])
  fields := #[]
  methods := #[]
  instanceTypes := #[]
  staticTypes := #[]
  resolved := Array.replicate 8 none
  statics := none }

/-- the primitive byte -/
def k6 : Class := { plain "byte" none with kind := .primitive 'B', accessFlags := 0x411 }
/-- [B -/
def k7 : Class := { plain "[B" (some 0) with kind := .array 6 .byte, interfaces := #[4, 5], accessFlags := 1041 }

/-- the primitive int -/
def k8 : Class := { plain "int" none with kind := .primitive 'I', accessFlags := 0x411 }
/-- [I -/
def k9 : Class := { plain "[I" (some 0) with kind := .array 8 .int, interfaces := #[4, 5], accessFlags := 1041 }

def heap : Heap := #[]
def classes : Array Class := #[k0, k1, k2, k3, k4, k5, k6, k7, k8, k9]
def interned : List (Array UInt16 × Addr) := []
def slotsUsed : Nat := 0
def theMethod : MethodId := ⟨1, 1⟩
def args0 : Array Value := #[.long 3, .int 4, .int 5, .int 1]
def aboutOver (below : List Frame) : State where
  vm := { classes := classes, interned := interned.toArray }
  heap := heap
  slotsUsed := slotsUsed
  threads := #[{ frames := .invoking theMethod args0 :: below }]
def below0 : List Frame := [.native { method := ⟨0, 0⟩, args := #[] }]
def about1 : State := aboutOver below0
def p0 : Program := .bare "" "" ""
def e0 : Env := launch0.env 0 0 0
theorem w_frames : about1.frames = Frame.invoking theMethod args0 :: below0 := rfl
set_option maxRecDepth 65536 in
theorem w_args : argsFit about1.vm theMethod args0 = true := by decide +kernel
set_option maxRecDepth 65536 in
theorem w_heap : heapFits about1 = true := by decide +kernel
set_option maxRecDepth 65536 in
theorem w_runnable : about1.curStatus? = some .runnable := by decide +kernel
set_option maxRecDepth 65536 in
theorem w_alone : about1.alone = true := by decide +kernel
set_option maxRecDepth 65536 in
theorem w_named : about1.methodNamed? x = some theMethod := by decide +kernel
set_option maxRecDepth 65536 in
theorem w_hears : about1.hears theMethod below0 = true := by decide +kernel
set_option maxRecDepth 65536 in
theorem w_ripe : about1.ripe theMethod args0 below0 = true := by decide +kernel
theorem w_running : about1.status = .running := rfl
set_option maxRecDepth 65536 in
theorem w_room : about1.hasRoom e0.platform room_1 = true :=
  launch0.hasRoom_least _ room_1 (by decide +kernel) (by decide +kernel) (by decide +kernel) (by decide +kernel) (by decide +kernel) (by decide +kernel)
theorem allAtoms_all (ts : List Jvm.Cond) (a : Array Jvm.Value) (st : Jvm.State) : (allAtoms ts).before a st = ts.all (fun c => c.before a st) := by
  induction ts with
  | nil => rfl
  | cons c t ih =>
    show (Jvm.Cond.and c (allAtoms t)).before a st = _
    rw [Jvm.Cond.before_and, ih, List.all_cons]
def words1 : List Jvm.Cond := Jvm.Cond.code x code maxLocals ret :: tables_1
/-- a 'code' word, met by the world's own term for the bytes: nothing is compared byte by byte -/
theorem code_word {y : MethodName} {bytes : ByteArray} {mx : Nat} {rt : Option FieldType} {a : Array Value} {s : State} {m : MethodId} {meth : Method} {c : Code} (h1 : s.methodNamed? y = some m) (h2 : s.vm.method? m = some meth) (h3 : meth.code = some c) (h4 : c.code = bytes)
    (h5 : (c.maxLocals == mx && c.exceptionTable.isEmpty && decide (c.maxStack ≤ mostOperands) && decide (meth.sig.returnType = rt) && !meth.locks && decide (parseMethodDescriptor y.desc = some meth.sig)) = true) : (Jvm.Cond.code y bytes mx rt).before a s = true := by
  simp only [Bool.and_eq_true, beq_iff_eq, Bool.not_eq_true', decide_eq_true_eq] at h5
  obtain ⟨⟨⟨⟨⟨g1, g2⟩, g3⟩, g4⟩, g5⟩, g6⟩ := h5
  simp [Cond.before, Cond.holds, Cond.value, h1, h2, h3, h4, g1, g2, g3, g4, g5, g6]
def isCode : Jvm.Cond → Bool
  | .code _ _ _ _ => true
  | _ => false
theorem all_split {L : List Jvm.Cond} {P : Jvm.Cond → Bool} (h1 : L.all (fun c => isCode c || P c) = true) (h2 : ∀ c ∈ L.filter isCode, P c = true) : L.all P = true := by
  refine List.all_eq_true.mpr fun c hc => ?_
  have h := List.all_eq_true.mp h1 c hc
  rcases Bool.eq_false_or_eq_true (isCode c) with hi | hi
  · exact h2 c (List.mem_filter.mpr ⟨hc, hi⟩)
  · simpa [hi] using h
set_option maxRecDepth 65536 in
theorem w_c0 : (Jvm.Cond.code x code maxLocals ret).before args0 about1 = true := code_word (m := ⟨1, 1⟩) (meth := k1m1) (c := k1c1) (by decide +kernel) rfl rfl rfl (by decide +kernel)
set_option maxRecDepth 65536 in
theorem w_c1 : (Jvm.Cond.code ({ cls := "com/example/feldtafel/feldtafel/LinesIsBlankPinLaw", name := "pick", desc := "(I)B" } : Jvm.MethodName) method_3_code (2 : Nat) (Option.some Jvm.ClassFile.FieldType.byte)).before args0 about1 = true := code_word (m := ⟨1, 2⟩) (meth := k1m2) (c := k1c2) (by decide +kernel) rfl rfl rfl (by decide +kernel)
set_option maxRecDepth 65536 in
theorem w_c2 : (Jvm.Cond.code ({ cls := "java/lang/Math", name := "min", desc := "(II)I" } : Jvm.MethodName) jdk_29_method_69_code (2 : Nat) (Option.some Jvm.ClassFile.FieldType.int)).before args0 about1 = true := code_word (m := ⟨2, 2⟩) (meth := k2m2) (c := k2c2) (by decide +kernel) rfl rfl rfl (by decide +kernel)
set_option maxRecDepth 65536 in
theorem w_c3 : (Jvm.Cond.code ({ cls := "java/lang/Math", name := "max", desc := "(II)I" } : Jvm.MethodName) jdk_29_method_65_code (2 : Nat) (Option.some Jvm.ClassFile.FieldType.int)).before args0 about1 = true := code_word (m := ⟨2, 1⟩) (meth := k2m1) (c := k2c1) (by decide +kernel) rfl rfl rfl (by decide +kernel)
set_option maxRecDepth 65536 in
theorem w_c4 : (Jvm.Cond.code ({ cls := "com/example/feldtafel/feldtafel/LinesIsBlankPinLaw", name := "ok", desc := "([BIIIZ)Z" } : Jvm.MethodName) method_4_code (5 : Nat) (Option.some Jvm.ClassFile.FieldType.boolean)).before args0 about1 = true := code_word (m := ⟨1, 3⟩) (meth := k1m3) (c := k1c3) (by decide +kernel) rfl rfl rfl (by decide +kernel)
set_option maxRecDepth 65536 in
theorem w_c5 : (Jvm.Cond.code ({ cls := "com/example/feldtafel/feldtafel/Lines", name := "isBlank", desc := "([BIIZ)Z" } : Jvm.MethodName) prog_20_method_12_code (6 : Nat) (Option.some Jvm.ClassFile.FieldType.boolean)).before args0 about1 = true := code_word (m := ⟨3, 0⟩) (meth := k3m0) (c := k3c0) (by decide +kernel) rfl rfl rfl (by decide +kernel)
def codes1 : List Jvm.Cond := [Jvm.Cond.code x code maxLocals ret, Jvm.Cond.code ({ cls := "com/example/feldtafel/feldtafel/LinesIsBlankPinLaw", name := "pick", desc := "(I)B" } : Jvm.MethodName) method_3_code (2 : Nat) (Option.some Jvm.ClassFile.FieldType.byte), Jvm.Cond.code ({ cls := "java/lang/Math", name := "min", desc := "(II)I" } : Jvm.MethodName) jdk_29_method_69_code (2 : Nat) (Option.some Jvm.ClassFile.FieldType.int), Jvm.Cond.code ({ cls := "java/lang/Math", name := "max", desc := "(II)I" } : Jvm.MethodName) jdk_29_method_65_code (2 : Nat) (Option.some Jvm.ClassFile.FieldType.int), Jvm.Cond.code ({ cls := "com/example/feldtafel/feldtafel/LinesIsBlankPinLaw", name := "ok", desc := "([BIIIZ)Z" } : Jvm.MethodName) method_4_code (5 : Nat) (Option.some Jvm.ClassFile.FieldType.boolean), Jvm.Cond.code ({ cls := "com/example/feldtafel/feldtafel/Lines", name := "isBlank", desc := "([BIIZ)Z" } : Jvm.MethodName) prog_20_method_12_code (6 : Nat) (Option.some Jvm.ClassFile.FieldType.boolean)]
set_option maxRecDepth 65536 in
theorem codes_eq : words1.filter isCode = codes1 := rfl
theorem w_codes : ∀ c ∈ words1.filter isCode, c.before args0 about1 = true := by
  rw [codes_eq]
  intro c hc
  simp only [codes1, List.mem_cons, List.not_mem_nil, or_false] at hc
  rcases hc with rfl | rfl | rfl | rfl | rfl | rfl
  · exact w_c0
  · exact w_c1
  · exact w_c2
  · exact w_c3
  · exact w_c4
  · exact w_c5
set_option maxRecDepth 65536 in
theorem w_t1 : words1.all (fun c => isCode c || c.before args0 about1) = true := by decide +kernel
theorem w_tables : (allAtoms (Jvm.Cond.code x code maxLocals ret :: tables_1)).before args0 about1 = true := by
  rw [allAtoms_all]
  show words1.all (fun c => c.before args0 about1) = true
  refine all_split ?_ w_codes
  rw [w_t1]
set_option maxRecDepth 65536 in
theorem w_case : (Jvm.Cond.and given_1 narrow_1).before args0 about1 = true := by decide +kernel
theorem w_applies : (headSpec (Jvm.Cond.code x code maxLocals ret :: tables_1) room_1).applies x e0.platform about1 = true :=
  (Spec.applies_iff w_frames).mpr ⟨w_running, w_runnable, w_alone, w_named, w_hears, w_ripe, w_room, w_tables⟩
theorem atStart : AtStart classFile x code maxLocals ret World_1 tables_1 room_1 Calls_1 rest_1 Pre_1 launch0 p0 e0 about1 theMethod args0 below0 :=
  ⟨lists_1, trivial, launch0.admits_env _ _ _, launch0.least_env, fairChoices_fair.cas, fairChoices_fair.clock, w_frames, w_args, w_heap, w_applies, trivial, trivial, w_case⟩
end start1
theorem witness_1 : WitnessClaimed_1 := ⟨start1.p0, start1.e0, start1.about1, start1.theMethod, start1.args0, start1.below0, start1.atStart⟩
end Jvm.Pilot.@@N@@
