import JvmDerived
import JvmDerived.Pilot.@@N@@Statement
import JvmDerived.Pilot.@@N@@Code
set_option linter.unusedVariables false
set_option linter.unusedSimpArgs false
@@BLOCK:NumsL.lean.txt@@
namespace Jvm.Pilot.@@N@@
open Jvm Jvm.ClassFile Sem Op Lib Jvm.Free Jvm.Stand Jvm.LawKit Jvm.RoadKit Bundle Jvm.Pilot.@@N@@.Jvm.D
section OwnKit
variable {p : Program} {l : Launch} {e : Env} {R : Room} {s : State} {m : MethodId} {args : Array Value} {below : List Frame} {meth : Method} {c : Code} {T T' : State} {locs : List Loc} {cells slots : Nat} {Z : State} {a0 : Array Value} {h h' : Heap} {cm sm : Nat} {Q : Option Value → Heap → List Loc → Prop} {pc pc' : Nat} {Ls Ls' : Array Slot} {St : List Value}
/-- the walk's goal: from this frame the method comes to its end, and Q holds of what it leaves -/
def Go (p : Program) (e : Env) (below : List Frame) (s : State) (cm sm : Nat) (Q : Option Value → Heap → List Loc → Prop) (T : State) (g : JFrame) : Prop :=
  ∃ s₂ o, Steps p.tables e below (T.setTop g) s₂ ∧ s₂.status = .running ∧ Ended s₂ below o ∧ ∃ v L, o = .returned v ∧ Q v s₂.heap L ∧ FrameEnd s o s₂ L cm sm
theorem Go.st {g g' : JFrame} (q : ∀ t, Steps p.tables e below (T'.setTop g') t → Steps p.tables e below (T.setTop g) t) (k : Go p e below s cm sm Q T' g') : Go p e below s cm sm Q T g := by
  obtain ⟨s₂, o, st, r⟩ := k
  exact ⟨s₂, o, q _ st, r⟩
theorem Go.weak {g : JFrame} {Q' : Option Value → Heap → List Loc → Prop} (k : Go p e below s cm sm Q T g) (q : ∀ v h L, Q v h L → Q' v h L) : Go p e below s cm sm Q' T g := by
  obtain ⟨s₂, o, st, r1, r2, v, L, r3, r4, r5⟩ := k
  exact ⟨s₂, o, st, r1, r2, v, L, r3, q _ _ _ r4, r5⟩
/-- a contract -/
def Con (l : Launch) (Z : State) (y : MethodName) (bytes : ByteArray) (maxL : Nat) (ret : Option FieldType) (rm : Room) (as' : Array Value) (h : Heap) (Q : Option Value → Heap → List Loc → Prop) : Prop :=
  ∀ ws : List Jvm.Cond, MetFree l y (head1 (Jvm.Cond.code y bytes maxL ret :: ws) rm) (fun a U => a = as' ∧ Z.Warmed39 U.vm ∧ U.heap = h) (fun _ _ _ _ _ => True) (fun _ U o U' => ∃ v L, o = .returned v ∧ Q v U'.heap L ∧ FrameEnd U o U' L rm.cells rm.slots)
theorem Con.of {y : MethodName} {bytes : ByteArray} {maxL : Nat} {ret : Option FieldType} {rm : Room} {as' : Array Value} (hpl : plainFor y = true)
    (body : ∀ (p : Program) (e : Env) (s : State) (m : MethodId) (below : List Frame) (meth : Method) (c : Code) (T : State), Stand p l e rm s m as' below meth c T [] 0 0 → p.tables.exec = Jvm.exec → Z.Warmed39 s.vm → c.code = bytes → c.maxLocals = maxL → s.vm.findClass y.cls = some m.cls → meth.name = y.name → meth.sig.returnType = ret → meth.locks = false → T.heap = h → Go p e below s rm.cells rm.slots Q T (entryFrame m as' maxL)) :
    Con l Z y bytes maxL ret rm as' h Q := by
  intro ws
  refine MetFree.of_bodySF hpl hisR ?_
  intro p e s m args below meth c s₁ Bd hml0 hP hK
  obtain ⟨rfl, hZ, hh⟩ := hP
  exact body p e s m below meth c s₁ (Stand.of_body Bd) Bd.exec hZ Bd.bytes hml0 (findClass_of_methodNamed Bd.named) (name_of_methodNamed Bd.named Bd.method).1 Bd.returns Bd.notSynchronized (by rw [← hh, Bd.state]; rfl)
theorem Con.weak {y : MethodName} {bytes : ByteArray} {maxL : Nat} {ret : Option FieldType} {rm : Room} {as' : Array Value} {Q' : Option Value → Heap → List Loc → Prop} (C : Con l Z y bytes maxL ret rm as' h Q) (q : ∀ v h L, Q v h L → Q' v h L) : Con l Z y bytes maxL ret rm as' h Q' := by
  intro ws p e ha hc hk s m args below hf happ hP hK
  obtain ⟨n, o, h1, h2, h3, v, L, r3, r4, r5⟩ := C ws p e ha hc hk s m args below hf happ hP hK
  exact ⟨n, o, h1, h2, h3, v, L, r3, q _ _ _ r4, r5⟩
/-- what a body that writes nothing leaves -/
abbrev QP (v0 : Option Value) (h0 : Heap) (n0 : Nat) : Option Value → Heap → List Loc → Prop := fun v h L => v = v0 ∧ Fr n0 L ∧ h = h0
/-- what a law leaves -/
abbrev QL (v0 : Option Value) (n0 : Nat) : Option Value → Heap → List Loc → Prop := fun v _ L => v = v0 ∧ Fr n0 L
/-- iushr, lushr -/
def jushr (x y : Int32) : Int32 := (x.toUInt32 >>> (y &&& 31).toUInt32).toInt32
def jlushr (x : Int64) (y : Int32) : Int64 := (x.toUInt64 >>> (y &&& 0x3f).toInt64.toUInt64).toInt64
theorem w_iloadN (X : Stand p l e R s m args below meth c T locs cells slots) (hx : p.tables.exec = Jvm.exec) {k : Fin 4} {v : Int32} (hd : decode c.code pc = .ok (.iload_n k, 1)) (hp : pc + 1 = pc') (hl : Ls[k.val]? = some (.val (.int v)))
    (kk : Go p e below s cm sm Q T (mkF m pc' Ls (.int v :: St))) : Go p e below s cm sm Q T (mkF m pc Ls (St)) := by
  subst hp
  exact Go.st (fun t q => XS.iloadN (g := mkF m pc Ls (St)) X.here hx rfl hd hl q) kk
theorem w_iload (X : Stand p l e R s m args below meth c T locs cells slots) (hx : p.tables.exec = Jvm.exec) {k : Nat} {v : Int32} (hd : decode c.code pc = .ok (.iload k, 2)) (hp : pc + 2 = pc') (hl : Ls[k]? = some (.val (.int v)))
    (kk : Go p e below s cm sm Q T (mkF m pc' Ls (.int v :: St))) : Go p e below s cm sm Q T (mkF m pc Ls (St)) := by
  subst hp
  exact Go.st (fun t q => XS.iload (g := mkF m pc Ls (St)) X.here hx rfl hd hl q) kk
theorem w_istoreN (X : Stand p l e R s m args below meth c T locs cells slots) (hx : p.tables.exec = Jvm.exec) {k : Fin 4} {x : Int32} (hd : decode c.code pc = .ok (.istore_n k, 1)) (hp : pc + 1 = pc') (hl : storeLocals Ls k.val (.int x) = some Ls')
    (kk : Go p e below s cm sm Q T (mkF m pc' Ls' (St))) : Go p e below s cm sm Q T (mkF m pc Ls (.int x :: St)) := by
  subst hp
  exact Go.st (fun t q => XS.istoreN (g := mkF m pc Ls (.int x :: St)) X.here hx rfl hd rfl hl q) kk
theorem w_istore (X : Stand p l e R s m args below meth c T locs cells slots) (hx : p.tables.exec = Jvm.exec) {k : Nat} {x : Int32} (hd : decode c.code pc = .ok (.istore k, 2)) (hp : pc + 2 = pc') (hl : storeLocals Ls k (.int x) = some Ls')
    (kk : Go p e below s cm sm Q T (mkF m pc' Ls' (St))) : Go p e below s cm sm Q T (mkF m pc Ls (.int x :: St)) := by
  subst hp
  exact Go.st (fun t q => XS.istore (g := mkF m pc Ls (.int x :: St)) X.here hx rfl hd rfl hl q) kk
theorem w_lloadN (X : Stand p l e R s m args below meth c T locs cells slots) (hx : p.tables.exec = Jvm.exec) {k : Fin 4} {v : Int64} (hd : decode c.code pc = .ok (.lload_n k, 1)) (hp : pc + 1 = pc') (hl : Ls[k.val]? = some (.val (.long v)))
    (kk : Go p e below s cm sm Q T (mkF m pc' Ls (.long v :: St))) : Go p e below s cm sm Q T (mkF m pc Ls (St)) := by
  subst hp
  exact Go.st (fun t q => XS.lloadN (g := mkF m pc Ls (St)) X.here hx rfl hd hl q) kk
theorem w_lload (X : Stand p l e R s m args below meth c T locs cells slots) (hx : p.tables.exec = Jvm.exec) {k : Nat} {v : Int64} (hd : decode c.code pc = .ok (.lload k, 2)) (hp : pc + 2 = pc') (hl : Ls[k]? = some (.val (.long v)))
    (kk : Go p e below s cm sm Q T (mkF m pc' Ls (.long v :: St))) : Go p e below s cm sm Q T (mkF m pc Ls (St)) := by
  subst hp
  exact Go.st (fun t q => XS.lload (g := mkF m pc Ls (St)) X.here hx rfl hd hl q) kk
theorem w_lstoreN (X : Stand p l e R s m args below meth c T locs cells slots) (hx : p.tables.exec = Jvm.exec) {k : Fin 4} {x : Int64} (hd : decode c.code pc = .ok (.lstore_n k, 1)) (hp : pc + 1 = pc') (hl : storeLocals Ls k.val (.long x) = some Ls')
    (kk : Go p e below s cm sm Q T (mkF m pc' Ls' (St))) : Go p e below s cm sm Q T (mkF m pc Ls (.long x :: St)) := by
  subst hp
  exact Go.st (fun t q => XS.lstoreN (g := mkF m pc Ls (.long x :: St)) X.here hx rfl hd rfl hl q) kk
theorem w_lstore (X : Stand p l e R s m args below meth c T locs cells slots) (hx : p.tables.exec = Jvm.exec) {k : Nat} {x : Int64} (hd : decode c.code pc = .ok (.lstore k, 2)) (hp : pc + 2 = pc') (hl : storeLocals Ls k (.long x) = some Ls')
    (kk : Go p e below s cm sm Q T (mkF m pc' Ls' (St))) : Go p e below s cm sm Q T (mkF m pc Ls (.long x :: St)) := by
  subst hp
  exact Go.st (fun t q => XS.lstore (g := mkF m pc Ls (.long x :: St)) X.here hx rfl hd rfl hl q) kk
theorem w_aloadN (X : Stand p l e R s m args below meth c T locs cells slots) (hx : p.tables.exec = Jvm.exec) {k : Fin 4} {v : Value} (hd : decode c.code pc = .ok (.aload_n k, 1)) (hp : pc + 1 = pc') (hl : Ls[k.val]? = some (.val v)) (hv : v.isRef = true)
    (kk : Go p e below s cm sm Q T (mkF m pc' Ls (v :: St))) : Go p e below s cm sm Q T (mkF m pc Ls (St)) := by
  subst hp
  exact Go.st (fun t q => XS.aloadN (g := mkF m pc Ls (St)) X.here hx rfl hd hl hv q) kk
theorem w_aload (X : Stand p l e R s m args below meth c T locs cells slots) (hx : p.tables.exec = Jvm.exec) {k : Nat} {v : Value} (hd : decode c.code pc = .ok (.aload k, 2)) (hp : pc + 2 = pc') (hl : Ls[k]? = some (.val v)) (hv : v.isRef = true)
    (kk : Go p e below s cm sm Q T (mkF m pc' Ls (v :: St))) : Go p e below s cm sm Q T (mkF m pc Ls (St)) := by
  subst hp
  exact Go.st (fun t q => XS.aload (g := mkF m pc Ls (St)) X.here hx rfl hd hl hv q) kk
theorem w_astoreN (X : Stand p l e R s m args below meth c T locs cells slots) (hx : p.tables.exec = Jvm.exec) {k : Fin 4} {x : Value} (hd : decode c.code pc = .ok (.astore_n k, 1)) (hp : pc + 1 = pc') (hv : x.isRef = true) (hl : storeLocals Ls k.val x = some Ls')
    (kk : Go p e below s cm sm Q T (mkF m pc' Ls' (St))) : Go p e below s cm sm Q T (mkF m pc Ls (x :: St)) := by
  subst hp
  exact Go.st (fun t q => XS.astoreN (g := mkF m pc Ls (x :: St)) X.here hx rfl hd rfl hv hl q) kk
theorem w_astore (X : Stand p l e R s m args below meth c T locs cells slots) (hx : p.tables.exec = Jvm.exec) {k : Nat} {x : Value} (hd : decode c.code pc = .ok (.astore k, 2)) (hp : pc + 2 = pc') (hv : x.isRef = true) (hl : storeLocals Ls k x = some Ls')
    (kk : Go p e below s cm sm Q T (mkF m pc' Ls' (St))) : Go p e below s cm sm Q T (mkF m pc Ls (x :: St)) := by
  subst hp
  exact Go.st (fun t q => XS.astore (g := mkF m pc Ls (x :: St)) X.here hx rfl hd rfl hv hl q) kk
theorem w_iconst (X : Stand p l e R s m args below meth c T locs cells slots) (hx : p.tables.exec = Jvm.exec) {i : Int} {v : Int32} (hd : decode c.code pc = .ok (.iconst i, 1)) (hp : pc + 1 = pc') (hv : Int32.ofInt i = v)
    (kk : Go p e below s cm sm Q T (mkF m pc' Ls (.int v :: St))) : Go p e below s cm sm Q T (mkF m pc Ls St) := by
  subst hp hv
  exact Go.st (fun t q => XS.iconst (g := mkF m pc Ls St) X.here hx rfl hd q) kk
theorem w_bipush (X : Stand p l e R s m args below meth c T locs cells slots) (hx : p.tables.exec = Jvm.exec) {i : Int} {v : Int32} (hd : decode c.code pc = .ok (.bipush i, 2)) (hp : pc + 2 = pc') (hv : (Int8.ofInt i).toInt32 = v)
    (kk : Go p e below s cm sm Q T (mkF m pc' Ls (.int v :: St))) : Go p e below s cm sm Q T (mkF m pc Ls St) := by
  subst hp hv
  exact Go.st (fun t q => XS.bipush (g := mkF m pc Ls St) X.here hx rfl hd q) kk
theorem w_sipush (X : Stand p l e R s m args below meth c T locs cells slots) (hx : p.tables.exec = Jvm.exec) {i : Int} {v : Int32} (hd : decode c.code pc = .ok (.sipush i, 3)) (hp : pc + 3 = pc') (hv : (Int16.ofInt i).toInt32 = v)
    (kk : Go p e below s cm sm Q T (mkF m pc' Ls (.int v :: St))) : Go p e below s cm sm Q T (mkF m pc Ls St) := by
  subst hp hv
  exact Go.st (fun t q => XS.sipush (g := mkF m pc Ls St) X.here hx rfl hd q) kk
theorem w_lconst (X : Stand p l e R s m args below meth c T locs cells slots) (hx : p.tables.exec = Jvm.exec) {i : Fin 2} {v : Int64} (hd : decode c.code pc = .ok (.lconst i, 1)) (hp : pc + 1 = pc') (hv : Int64.ofNat i = v)
    (kk : Go p e below s cm sm Q T (mkF m pc' Ls (.long v :: St))) : Go p e below s cm sm Q T (mkF m pc Ls St) := by
  subst hp hv
  exact Go.st (fun t q => XS.lconst (g := mkF m pc Ls St) X.here hx rfl hd q) kk
theorem w_aconstNull (X : Stand p l e R s m args below meth c T locs cells slots) (hx : p.tables.exec = Jvm.exec)  (hd : decode c.code pc = .ok (.aconst_null, 1)) (hp : pc + 1 = pc')
    (kk : Go p e below s cm sm Q T (mkF m pc' Ls (.null :: St))) : Go p e below s cm sm Q T (mkF m pc Ls (St)) := by
  subst hp
  exact Go.st (fun t q => XS.aconstNull (g := mkF m pc Ls (St)) X.here hx rfl hd q) kk
theorem w_iadd (X : Stand p l e R s m args below meth c T locs cells slots) (hx : p.tables.exec = Jvm.exec) {x y : Int32} (hd : decode c.code pc = .ok (.iadd, 1)) (hp : pc + 1 = pc')
    (kk : Go p e below s cm sm Q T (mkF m pc' Ls (.int (x + y) :: St))) : Go p e below s cm sm Q T (mkF m pc Ls (.int y :: .int x :: St)) := by
  subst hp
  exact Go.st (fun t q => XS.iadd (g := mkF m pc Ls (.int y :: .int x :: St)) X.here hx rfl hd rfl q) kk
theorem w_ladd (X : Stand p l e R s m args below meth c T locs cells slots) (hx : p.tables.exec = Jvm.exec) {x y : Int64} (hd : decode c.code pc = .ok (.ladd, 1)) (hp : pc + 1 = pc')
    (kk : Go p e below s cm sm Q T (mkF m pc' Ls (.long (x + y) :: St))) : Go p e below s cm sm Q T (mkF m pc Ls (.long y :: .long x :: St)) := by
  subst hp
  exact Go.st (fun t q => XS.ladd (g := mkF m pc Ls (.long y :: .long x :: St)) X.here hx rfl hd rfl q) kk
theorem w_isub (X : Stand p l e R s m args below meth c T locs cells slots) (hx : p.tables.exec = Jvm.exec) {x y : Int32} (hd : decode c.code pc = .ok (.isub, 1)) (hp : pc + 1 = pc')
    (kk : Go p e below s cm sm Q T (mkF m pc' Ls (.int (x - y) :: St))) : Go p e below s cm sm Q T (mkF m pc Ls (.int y :: .int x :: St)) := by
  subst hp
  exact Go.st (fun t q => XS.isub (g := mkF m pc Ls (.int y :: .int x :: St)) X.here hx rfl hd rfl q) kk
theorem w_lsub (X : Stand p l e R s m args below meth c T locs cells slots) (hx : p.tables.exec = Jvm.exec) {x y : Int64} (hd : decode c.code pc = .ok (.lsub, 1)) (hp : pc + 1 = pc')
    (kk : Go p e below s cm sm Q T (mkF m pc' Ls (.long (x - y) :: St))) : Go p e below s cm sm Q T (mkF m pc Ls (.long y :: .long x :: St)) := by
  subst hp
  exact Go.st (fun t q => XS.lsub (g := mkF m pc Ls (.long y :: .long x :: St)) X.here hx rfl hd rfl q) kk
theorem w_imul (X : Stand p l e R s m args below meth c T locs cells slots) (hx : p.tables.exec = Jvm.exec) {x y : Int32} (hd : decode c.code pc = .ok (.imul, 1)) (hp : pc + 1 = pc')
    (kk : Go p e below s cm sm Q T (mkF m pc' Ls (.int (x * y) :: St))) : Go p e below s cm sm Q T (mkF m pc Ls (.int y :: .int x :: St)) := by
  subst hp
  exact Go.st (fun t q => XS.imul (g := mkF m pc Ls (.int y :: .int x :: St)) X.here hx rfl hd rfl q) kk
theorem w_lmul (X : Stand p l e R s m args below meth c T locs cells slots) (hx : p.tables.exec = Jvm.exec) {x y : Int64} (hd : decode c.code pc = .ok (.lmul, 1)) (hp : pc + 1 = pc')
    (kk : Go p e below s cm sm Q T (mkF m pc' Ls (.long (x * y) :: St))) : Go p e below s cm sm Q T (mkF m pc Ls (.long y :: .long x :: St)) := by
  subst hp
  exact Go.st (fun t q => XS.lmul (g := mkF m pc Ls (.long y :: .long x :: St)) X.here hx rfl hd rfl q) kk
theorem w_iand (X : Stand p l e R s m args below meth c T locs cells slots) (hx : p.tables.exec = Jvm.exec) {x y : Int32} (hd : decode c.code pc = .ok (.iand, 1)) (hp : pc + 1 = pc')
    (kk : Go p e below s cm sm Q T (mkF m pc' Ls (.int (x &&& y) :: St))) : Go p e below s cm sm Q T (mkF m pc Ls (.int y :: .int x :: St)) := by
  subst hp
  exact Go.st (fun t q => XS.iand (g := mkF m pc Ls (.int y :: .int x :: St)) X.here hx rfl hd rfl q) kk
theorem w_land (X : Stand p l e R s m args below meth c T locs cells slots) (hx : p.tables.exec = Jvm.exec) {x y : Int64} (hd : decode c.code pc = .ok (.land, 1)) (hp : pc + 1 = pc')
    (kk : Go p e below s cm sm Q T (mkF m pc' Ls (.long (x &&& y) :: St))) : Go p e below s cm sm Q T (mkF m pc Ls (.long y :: .long x :: St)) := by
  subst hp
  exact Go.st (fun t q => XS.land (g := mkF m pc Ls (.long y :: .long x :: St)) X.here hx rfl hd rfl q) kk
theorem w_ior (X : Stand p l e R s m args below meth c T locs cells slots) (hx : p.tables.exec = Jvm.exec) {x y : Int32} (hd : decode c.code pc = .ok (.ior, 1)) (hp : pc + 1 = pc')
    (kk : Go p e below s cm sm Q T (mkF m pc' Ls (.int (x ||| y) :: St))) : Go p e below s cm sm Q T (mkF m pc Ls (.int y :: .int x :: St)) := by
  subst hp
  exact Go.st (fun t q => XS.ior (g := mkF m pc Ls (.int y :: .int x :: St)) X.here hx rfl hd rfl q) kk
theorem w_lor (X : Stand p l e R s m args below meth c T locs cells slots) (hx : p.tables.exec = Jvm.exec) {x y : Int64} (hd : decode c.code pc = .ok (.lor, 1)) (hp : pc + 1 = pc')
    (kk : Go p e below s cm sm Q T (mkF m pc' Ls (.long (x ||| y) :: St))) : Go p e below s cm sm Q T (mkF m pc Ls (.long y :: .long x :: St)) := by
  subst hp
  exact Go.st (fun t q => XS.lor (g := mkF m pc Ls (.long y :: .long x :: St)) X.here hx rfl hd rfl q) kk
theorem w_ixor (X : Stand p l e R s m args below meth c T locs cells slots) (hx : p.tables.exec = Jvm.exec) {x y : Int32} (hd : decode c.code pc = .ok (.ixor, 1)) (hp : pc + 1 = pc')
    (kk : Go p e below s cm sm Q T (mkF m pc' Ls (.int (x ^^^ y) :: St))) : Go p e below s cm sm Q T (mkF m pc Ls (.int y :: .int x :: St)) := by
  subst hp
  exact Go.st (fun t q => XS.ixor (g := mkF m pc Ls (.int y :: .int x :: St)) X.here hx rfl hd rfl q) kk
theorem w_lxor (X : Stand p l e R s m args below meth c T locs cells slots) (hx : p.tables.exec = Jvm.exec) {x y : Int64} (hd : decode c.code pc = .ok (.lxor, 1)) (hp : pc + 1 = pc')
    (kk : Go p e below s cm sm Q T (mkF m pc' Ls (.long (x ^^^ y) :: St))) : Go p e below s cm sm Q T (mkF m pc Ls (.long y :: .long x :: St)) := by
  subst hp
  exact Go.st (fun t q => XS.lxor (g := mkF m pc Ls (.long y :: .long x :: St)) X.here hx rfl hd rfl q) kk
theorem w_idiv (X : Stand p l e R s m args below meth c T locs cells slots) (hx : p.tables.exec = Jvm.exec) {x y : Int32} (hd : decode c.code pc = .ok (.idiv, 1)) (hp : pc + 1 = pc') (hy : y ≠ 0)
    (kk : Go p e below s cm sm Q T (mkF m pc' Ls (.int (x / y) :: St))) : Go p e below s cm sm Q T (mkF m pc Ls (.int y :: .int x :: St)) := by
  subst hp
  exact Go.st (fun t q => XS.idiv (g := mkF m pc Ls (.int y :: .int x :: St)) X.here hx rfl hd rfl hy q) kk
theorem own_irem (x y : Int32) : x - x / y * y = x % y := by
  apply Int32.toInt_inj.mp
  have h : x.toInt - x.toInt.tdiv y.toInt * y.toInt = x.toInt.tmod y.toInt := by
    have := Int.mul_tdiv_add_tmod x.toInt y.toInt
    rw [Int.mul_comm]; omega
  have hr := (x % y).toInt_lt
  have hl := (x % y).le_toInt
  rw [Int32.toInt_mod] at hr hl
  rw [Int32.toInt_sub, Int32.toInt_mul, Int32.toInt_div, Int32.toInt_mod, Int.bmod_mul_bmod, Int.sub_bmod_bmod, h, Jvm.Kit.bmod32 (by omega) (by omega)]
theorem w_irem (X : Stand p l e R s m args below meth c T locs cells slots) (hx : p.tables.exec = Jvm.exec) {x y : Int32} (hd : decode c.code pc = .ok (.irem, 1)) (hp : pc + 1 = pc') (hy : y ≠ 0)
    (kk : Go p e below s cm sm Q T (mkF m pc' Ls (.int (x % y) :: St))) : Go p e below s cm sm Q T (mkF m pc Ls (.int y :: .int x :: St)) := by
  subst hp
  rw [← own_irem] at kk
  exact Go.st (fun t q => XS.irem (g := mkF m pc Ls (.int y :: .int x :: St)) X.here hx rfl hd rfl hy q) kk
theorem w_ldiv (X : Stand p l e R s m args below meth c T locs cells slots) (hx : p.tables.exec = Jvm.exec) {x y : Int64} (hd : decode c.code pc = .ok (.ldiv, 1)) (hp : pc + 1 = pc') (hy : y ≠ 0)
    (kk : Go p e below s cm sm Q T (mkF m pc' Ls (.long (x / y) :: St))) : Go p e below s cm sm Q T (mkF m pc Ls (.long y :: .long x :: St)) := by
  subst hp
  exact Go.st (fun t q => XS.ldiv (g := mkF m pc Ls (.long y :: .long x :: St)) X.here hx rfl hd rfl hy q) kk
theorem own_lrem (x y : Int64) : x - x / y * y = x % y := by
  apply Int64.toInt_inj.mp
  have h : x.toInt - x.toInt.tdiv y.toInt * y.toInt = x.toInt.tmod y.toInt := by
    have := Int.mul_tdiv_add_tmod x.toInt y.toInt
    rw [Int.mul_comm]; omega
  have hr := (x % y).toInt_lt
  have hl := (x % y).le_toInt
  rw [Int64.toInt_mod] at hr hl
  rw [Int64.toInt_sub, Int64.toInt_mul, Int64.toInt_div, Int64.toInt_mod, Int.bmod_mul_bmod, Int.sub_bmod_bmod, h, Jvm.Kit.bmod64 (by omega) (by omega)]
theorem w_lrem (X : Stand p l e R s m args below meth c T locs cells slots) (hx : p.tables.exec = Jvm.exec) {x y : Int64} (hd : decode c.code pc = .ok (.lrem, 1)) (hp : pc + 1 = pc') (hy : y ≠ 0)
    (kk : Go p e below s cm sm Q T (mkF m pc' Ls (.long (x % y) :: St))) : Go p e below s cm sm Q T (mkF m pc Ls (.long y :: .long x :: St)) := by
  subst hp
  rw [← own_lrem] at kk
  exact Go.st (fun t q => XS.lrem (g := mkF m pc Ls (.long y :: .long x :: St)) X.here hx rfl hd rfl hy q) kk
theorem w_ineg (X : Stand p l e R s m args below meth c T locs cells slots) (hx : p.tables.exec = Jvm.exec) {x : Int32} (hd : decode c.code pc = .ok (.ineg, 1)) (hp : pc + 1 = pc')
    (kk : Go p e below s cm sm Q T (mkF m pc' Ls (.int (-x) :: St))) : Go p e below s cm sm Q T (mkF m pc Ls (.int x :: St)) := by
  subst hp
  exact Go.st (fun t q => XS.ineg (g := mkF m pc Ls (.int x :: St)) X.here hx rfl hd rfl q) kk
theorem w_lneg (X : Stand p l e R s m args below meth c T locs cells slots) (hx : p.tables.exec = Jvm.exec) {x : Int64} (hd : decode c.code pc = .ok (.lneg, 1)) (hp : pc + 1 = pc')
    (kk : Go p e below s cm sm Q T (mkF m pc' Ls (.long (-x) :: St))) : Go p e below s cm sm Q T (mkF m pc Ls (.long x :: St)) := by
  subst hp
  exact Go.st (fun t q => XS.lneg (g := mkF m pc Ls (.long x :: St)) X.here hx rfl hd rfl q) kk
theorem w_i2l (X : Stand p l e R s m args below meth c T locs cells slots) (hx : p.tables.exec = Jvm.exec) {x : Int32} (hd : decode c.code pc = .ok (.i2l, 1)) (hp : pc + 1 = pc')
    (kk : Go p e below s cm sm Q T (mkF m pc' Ls (.long x.toInt64 :: St))) : Go p e below s cm sm Q T (mkF m pc Ls (.int x :: St)) := by
  subst hp
  exact Go.st (fun t q => XS.i2l (g := mkF m pc Ls (.int x :: St)) X.here hx rfl hd rfl q) kk
theorem w_l2i (X : Stand p l e R s m args below meth c T locs cells slots) (hx : p.tables.exec = Jvm.exec) {x : Int64} (hd : decode c.code pc = .ok (.l2i, 1)) (hp : pc + 1 = pc')
    (kk : Go p e below s cm sm Q T (mkF m pc' Ls (.int x.toInt32 :: St))) : Go p e below s cm sm Q T (mkF m pc Ls (.long x :: St)) := by
  subst hp
  exact Go.st (fun t q => XS.l2i (g := mkF m pc Ls (.long x :: St)) X.here hx rfl hd rfl q) kk
theorem w_i2b (X : Stand p l e R s m args below meth c T locs cells slots) (hx : p.tables.exec = Jvm.exec) {x : Int32} (hd : decode c.code pc = .ok (.i2b, 1)) (hp : pc + 1 = pc')
    (kk : Go p e below s cm sm Q T (mkF m pc' Ls (.int x.toInt8.toInt32 :: St))) : Go p e below s cm sm Q T (mkF m pc Ls (.int x :: St)) := by
  subst hp
  exact Go.st (fun t q => XS.i2b (g := mkF m pc Ls (.int x :: St)) X.here hx rfl hd rfl q) kk
theorem w_i2c (X : Stand p l e R s m args below meth c T locs cells slots) (hx : p.tables.exec = Jvm.exec) {x : Int32} (hd : decode c.code pc = .ok (.i2c, 1)) (hp : pc + 1 = pc')
    (kk : Go p e below s cm sm Q T (mkF m pc' Ls (.int x.toUInt32.toUInt16.toUInt32.toInt32 :: St))) : Go p e below s cm sm Q T (mkF m pc Ls (.int x :: St)) := by
  subst hp
  exact Go.st (fun t q => XS.i2c (g := mkF m pc Ls (.int x :: St)) X.here hx rfl hd rfl q) kk
theorem w_ishl (X : Stand p l e R s m args below meth c T locs cells slots) (hx : p.tables.exec = Jvm.exec) {x y : Int32} (hd : decode c.code pc = .ok (.ishl, 1)) (hp : pc + 1 = pc')
    (kk : Go p e below s cm sm Q T (mkF m pc' Ls (.int (x <<< (y &&& 31)) :: St))) : Go p e below s cm sm Q T (mkF m pc Ls (.int y :: .int x :: St)) := by
  subst hp
  exact Go.st (fun t q => XS.ishl (g := mkF m pc Ls (.int y :: .int x :: St)) X.here hx rfl hd rfl q) kk
theorem w_ishr (X : Stand p l e R s m args below meth c T locs cells slots) (hx : p.tables.exec = Jvm.exec) {x y : Int32} (hd : decode c.code pc = .ok (.ishr, 1)) (hp : pc + 1 = pc')
    (kk : Go p e below s cm sm Q T (mkF m pc' Ls (.int (x >>> (y &&& 31)) :: St))) : Go p e below s cm sm Q T (mkF m pc Ls (.int y :: .int x :: St)) := by
  subst hp
  exact Go.st (fun t q => XS.ishr (g := mkF m pc Ls (.int y :: .int x :: St)) X.here hx rfl hd rfl q) kk
theorem w_iushr (X : Stand p l e R s m args below meth c T locs cells slots) (hx : p.tables.exec = Jvm.exec) {x y : Int32} (hd : decode c.code pc = .ok (.iushr, 1)) (hp : pc + 1 = pc')
    (kk : Go p e below s cm sm Q T (mkF m pc' Ls (.int (jushr x y) :: St))) : Go p e below s cm sm Q T (mkF m pc Ls (.int y :: .int x :: St)) := by
  subst hp
  exact Go.st (fun t q => XS.iushr (g := mkF m pc Ls (.int y :: .int x :: St)) X.here hx rfl hd rfl q) kk
theorem w_lshl (X : Stand p l e R s m args below meth c T locs cells slots) (hx : p.tables.exec = Jvm.exec) {x : Int64} {y : Int32} (hd : decode c.code pc = .ok (.lshl, 1)) (hp : pc + 1 = pc')
    (kk : Go p e below s cm sm Q T (mkF m pc' Ls (.long (x <<< (y &&& 0x3f).toInt64) :: St))) : Go p e below s cm sm Q T (mkF m pc Ls (.int y :: .long x :: St)) := by
  subst hp
  exact Go.st (fun t q => XS.lshl (g := mkF m pc Ls (.int y :: .long x :: St)) X.here hx rfl hd rfl q) kk
theorem w_lshr (X : Stand p l e R s m args below meth c T locs cells slots) (hx : p.tables.exec = Jvm.exec) {x : Int64} {y : Int32} (hd : decode c.code pc = .ok (.lshr, 1)) (hp : pc + 1 = pc')
    (kk : Go p e below s cm sm Q T (mkF m pc' Ls (.long (x >>> (y &&& 0x3f).toInt64) :: St))) : Go p e below s cm sm Q T (mkF m pc Ls (.int y :: .long x :: St)) := by
  subst hp
  exact Go.st (fun t q => XS.lshr (g := mkF m pc Ls (.int y :: .long x :: St)) X.here hx rfl hd rfl q) kk
theorem w_lushr (X : Stand p l e R s m args below meth c T locs cells slots) (hx : p.tables.exec = Jvm.exec) {x : Int64} {y : Int32} (hd : decode c.code pc = .ok (.lushr, 1)) (hp : pc + 1 = pc')
    (kk : Go p e below s cm sm Q T (mkF m pc' Ls (.long (jlushr x y) :: St))) : Go p e below s cm sm Q T (mkF m pc Ls (.int y :: .long x :: St)) := by
  subst hp
  exact Go.st (fun t q => XS.lushr (g := mkF m pc Ls (.int y :: .long x :: St)) X.here hx rfl hd rfl q) kk
theorem w_lcmp (X : Stand p l e R s m args below meth c T locs cells slots) (hx : p.tables.exec = Jvm.exec) {x y : Int64} (hd : decode c.code pc = .ok (.lcmp, 1)) (hp : pc + 1 = pc')
    (kk : Go p e below s cm sm Q T (mkF m pc' Ls (.int (lcmpW x y) :: St))) : Go p e below s cm sm Q T (mkF m pc Ls (.long y :: .long x :: St)) := by
  subst hp
  exact Go.st (fun t q => XS.lcmp (g := mkF m pc Ls (.long y :: .long x :: St)) X.here hx rfl hd rfl q) kk
theorem w_dup (X : Stand p l e R s m args below meth c T locs cells slots) (hx : p.tables.exec = Jvm.exec) {x : Value} (hd : decode c.code pc = .ok (.dup, 1)) (hp : pc + 1 = pc') (hv : x.category = 1)
    (kk : Go p e below s cm sm Q T (mkF m pc' Ls (x :: x :: St))) : Go p e below s cm sm Q T (mkF m pc Ls (x :: St)) := by
  subst hp
  exact Go.st (fun t q => XS.dup (g := mkF m pc Ls (x :: St)) X.here hx rfl hd rfl hv q) kk
theorem w_pop (X : Stand p l e R s m args below meth c T locs cells slots) (hx : p.tables.exec = Jvm.exec) {x : Value} (hd : decode c.code pc = .ok (.pop, 1)) (hp : pc + 1 = pc') (hv : x.category = 1)
    (kk : Go p e below s cm sm Q T (mkF m pc' Ls (St))) : Go p e below s cm sm Q T (mkF m pc Ls (x :: St)) := by
  subst hp
  exact Go.st (fun t q => XS.pop (g := mkF m pc Ls (x :: St)) X.here hx rfl hd rfl hv q) kk
theorem w_dupX1 (X : Stand p l e R s m args below meth c T locs cells slots) (hx : p.tables.exec = Jvm.exec) {x y : Value} (hd : decode c.code pc = .ok (.dup_x1, 1)) (hp : pc + 1 = pc') (hv : x.category = 1) (hv' : y.category = 1)
    (kk : Go p e below s cm sm Q T (mkF m pc' Ls (x :: y :: x :: St))) : Go p e below s cm sm Q T (mkF m pc Ls (x :: y :: St)) := by
  subst hp
  exact Go.st (fun t q => XS.dupX1 (g := mkF m pc Ls (x :: y :: St)) X.here hx rfl hd rfl hv hv' q) kk
theorem w_iinc (X : Stand p l e R s m args below meth c T locs cells slots) (hx : p.tables.exec = Jvm.exec) {k : Nat} {cst : Int} {x w : Int32} (hd : decode c.code pc = .ok (.iinc k cst, 3)) (hp : pc + 3 = pc') (hl : Ls[k]? = some (.val (.int x))) (hv : Int32.ofInt cst = w) (hl' : storeLocals Ls k (.int (x + w)) = some Ls')
    (kk : Go p e below s cm sm Q T (mkF m pc' Ls' St)) : Go p e below s cm sm Q T (mkF m pc Ls St) := by
  subst hp hv
  exact Go.st (fun t q => XS.iinc (g := mkF m pc Ls St) X.here hx rfl hd hl hl' q) kk
theorem w_goto (X : Stand p l e R s m args below meth c T locs cells slots) (hx : p.tables.exec = Jvm.exec) {o : Int} (hd : decode c.code pc = .ok (.goto o, 3)) (ho : 0 ≤ (pc : Int) + o) (hp : ((pc : Int) + o).toNat = pc')
    (kk : Go p e below s cm sm Q T (mkF m pc' Ls St)) : Go p e below s cm sm Q T (mkF m pc Ls St) :=
  Go.st (fun t q => XS.goto (g := mkF m pc Ls St) X.here hx rfl (pc0 := pc) (pc' := pc') rfl hd ho hp q) kk
theorem w_icmp0 (X : Stand p l e R s m args below meth c T locs cells slots) (hx : p.tables.exec = Jvm.exec) {cd : ClassFile.Cond} {x y : Int32} {o : Int} {pt pf : Nat} (hd : decode c.code pc = .ok (.if_icmp cd o, 3)) (hf : pc + 3 = pf) (ho : 0 ≤ (pc : Int) + o) (hp : ((pc : Int) + o).toNat = pt)
    (kT : if_icmp.holds cd x y = true → Go p e below s cm sm Q T (mkF m pt Ls St)) (kF : if_icmp.holds cd x y = false → Go p e below s cm sm Q T (mkF m pf Ls St)) : Go p e below s cm sm Q T (mkF m pc Ls (.int y :: .int x :: St)) := by
  subst hf
  cases hc : if_icmp.holds cd x y with
  | true => exact Go.st (fun t q => XS.icmpYes (g := mkF m pc Ls (.int y :: .int x :: St)) X.here hx rfl (pc0 := pc) (pc' := pt) rfl hd rfl hc ho hp q) (kT hc)
  | false => exact Go.st (fun t q => XS.icmpNo (g := mkF m pc Ls (.int y :: .int x :: St)) X.here hx rfl hd rfl hc q) (kF hc)
theorem w_if0 (X : Stand p l e R s m args below meth c T locs cells slots) (hx : p.tables.exec = Jvm.exec) {cd : ClassFile.Cond} {x : Int32} {o : Int} {pt pf : Nat} (hd : decode c.code pc = .ok (.ifCond cd o, 3)) (hf : pc + 3 = pf) (ho : 0 ≤ (pc : Int) + o) (hp : ((pc : Int) + o).toNat = pt)
    (kT : if_icmp.holds cd x 0 = true → Go p e below s cm sm Q T (mkF m pt Ls St)) (kF : if_icmp.holds cd x 0 = false → Go p e below s cm sm Q T (mkF m pf Ls St)) : Go p e below s cm sm Q T (mkF m pc Ls (.int x :: St)) := by
  subst hf
  cases hc : if_icmp.holds cd x 0 with
  | true => exact Go.st (fun t q => XS.ifYes (g := mkF m pc Ls (.int x :: St)) X.here hx rfl (pc0 := pc) (pc' := pt) rfl hd rfl ((if0 _ _).trans hc) ho hp q) (kT hc)
  | false => exact Go.st (fun t q => XS.ifNo (g := mkF m pc Ls (.int x :: St)) X.here hx rfl hd rfl ((if0 _ _).trans hc) q) (kF hc)
theorem h_lt {x y : Int32} : (if_icmp.holds .lt x y = true → x < y) ∧ (if_icmp.holds .lt x y = false → ¬ x < y) := ⟨fun h => Decidable.byContradiction fun q => by simp [(flt q).1] at h, fun h q => by simp [(tlt q).1] at h⟩
theorem h_ge {x y : Int32} : (if_icmp.holds .ge x y = true → ¬ x < y) ∧ (if_icmp.holds .ge x y = false → x < y) := ⟨fun h q => by simp [(tlt q).2.1] at h, fun h => Decidable.byContradiction fun q => by simp [(flt q).2.1] at h⟩
theorem h_gt {x y : Int32} : (if_icmp.holds .gt x y = true → y < x) ∧ (if_icmp.holds .gt x y = false → ¬ y < x) := ⟨fun h => Decidable.byContradiction fun q => by simp [(flt q).2.2.1] at h, fun h q => by simp [(tlt q).2.2.1] at h⟩
theorem h_le {x y : Int32} : (if_icmp.holds .le x y = true → ¬ y < x) ∧ (if_icmp.holds .le x y = false → y < x) := ⟨fun h q => by simp [(tlt q).2.2.2] at h, fun h => Decidable.byContradiction fun q => by simp [(flt q).2.2.2] at h⟩
theorem h_eq {x y : Int32} : (if_icmp.holds .eq x y = true → x = y) ∧ (if_icmp.holds .eq x y = false → ¬ x = y) := ⟨fun h => Decidable.byContradiction fun q => by simp [(feq q).1] at h, fun h q => by simp [(teq q).1] at h⟩
theorem h_ne {x y : Int32} : (if_icmp.holds .ne x y = true → ¬ x = y) ∧ (if_icmp.holds .ne x y = false → x = y) := ⟨fun h q => by simp [(teq q).2] at h, fun h => Decidable.byContradiction fun q => by simp [(feq q).2] at h⟩
theorem w_icmp_lt (X : Stand p l e R s m args below meth c T locs cells slots) (hx : p.tables.exec = Jvm.exec) {x y : Int32} {o : Int} {pt pf : Nat} (hd : decode c.code pc = .ok (.if_icmp .lt o, 3)) (hf : pc + 3 = pf) (ho : 0 ≤ (pc : Int) + o) (hp : ((pc : Int) + o).toNat = pt)
    (kT : x < y → Go p e below s cm sm Q T (mkF m pt Ls St)) (kF : ¬ (x < y) → Go p e below s cm sm Q T (mkF m pf Ls St)) : Go p e below s cm sm Q T (mkF m pc Ls (.int y :: .int x :: St)) :=
  w_icmp0 X hx hd hf ho hp (fun h => kT (h_lt.1 h)) (fun h => kF (h_lt.2 h))
theorem w_if_lt (X : Stand p l e R s m args below meth c T locs cells slots) (hx : p.tables.exec = Jvm.exec) {x : Int32} {o : Int} {pt pf : Nat} (hd : decode c.code pc = .ok (.ifCond .lt o, 3)) (hf : pc + 3 = pf) (ho : 0 ≤ (pc : Int) + o) (hp : ((pc : Int) + o).toNat = pt)
    (kT : x < 0 → Go p e below s cm sm Q T (mkF m pt Ls St)) (kF : ¬ (x < 0) → Go p e below s cm sm Q T (mkF m pf Ls St)) : Go p e below s cm sm Q T (mkF m pc Ls (.int x :: St)) :=
  w_if0 X hx hd hf ho hp (fun h => kT (h_lt.1 h)) (fun h => kF (h_lt.2 h))
theorem w_ifL_lt (X : Stand p l e R s m args below meth c T locs cells slots) (hx : p.tables.exec = Jvm.exec) {x y : Int64} {o : Int} {pt pf : Nat} (hd : decode c.code pc = .ok (.ifCond .lt o, 3)) (hf : pc + 3 = pf) (ho : 0 ≤ (pc : Int) + o) (hp : ((pc : Int) + o).toNat = pt)
    (kT : x < y → Go p e below s cm sm Q T (mkF m pt Ls St)) (kF : ¬ (x < y) → Go p e below s cm sm Q T (mkF m pf Ls St)) : Go p e below s cm sm Q T (mkF m pc Ls (.int (lcmpW x y) :: St)) :=
  w_if_lt X hx hd hf ho hp (fun q => kT ((lw_lt x y).1 q)) (fun q => kF (fun r => q ((lw_lt x y).2 r)))
theorem w_icmp_ge (X : Stand p l e R s m args below meth c T locs cells slots) (hx : p.tables.exec = Jvm.exec) {x y : Int32} {o : Int} {pt pf : Nat} (hd : decode c.code pc = .ok (.if_icmp .ge o, 3)) (hf : pc + 3 = pf) (ho : 0 ≤ (pc : Int) + o) (hp : ((pc : Int) + o).toNat = pt)
    (kT : ¬ (x < y) → Go p e below s cm sm Q T (mkF m pt Ls St)) (kF : x < y → Go p e below s cm sm Q T (mkF m pf Ls St)) : Go p e below s cm sm Q T (mkF m pc Ls (.int y :: .int x :: St)) :=
  w_icmp0 X hx hd hf ho hp (fun h => kT (h_ge.1 h)) (fun h => kF (h_ge.2 h))
theorem w_if_ge (X : Stand p l e R s m args below meth c T locs cells slots) (hx : p.tables.exec = Jvm.exec) {x : Int32} {o : Int} {pt pf : Nat} (hd : decode c.code pc = .ok (.ifCond .ge o, 3)) (hf : pc + 3 = pf) (ho : 0 ≤ (pc : Int) + o) (hp : ((pc : Int) + o).toNat = pt)
    (kT : ¬ (x < 0) → Go p e below s cm sm Q T (mkF m pt Ls St)) (kF : x < 0 → Go p e below s cm sm Q T (mkF m pf Ls St)) : Go p e below s cm sm Q T (mkF m pc Ls (.int x :: St)) :=
  w_if0 X hx hd hf ho hp (fun h => kT (h_ge.1 h)) (fun h => kF (h_ge.2 h))
theorem w_ifL_ge (X : Stand p l e R s m args below meth c T locs cells slots) (hx : p.tables.exec = Jvm.exec) {x y : Int64} {o : Int} {pt pf : Nat} (hd : decode c.code pc = .ok (.ifCond .ge o, 3)) (hf : pc + 3 = pf) (ho : 0 ≤ (pc : Int) + o) (hp : ((pc : Int) + o).toNat = pt)
    (kT : ¬ (x < y) → Go p e below s cm sm Q T (mkF m pt Ls St)) (kF : x < y → Go p e below s cm sm Q T (mkF m pf Ls St)) : Go p e below s cm sm Q T (mkF m pc Ls (.int (lcmpW x y) :: St)) :=
  w_if_ge X hx hd hf ho hp (fun q => kT (fun r => q ((lw_lt x y).2 r))) (fun q => kF ((lw_lt x y).1 q))
theorem w_icmp_gt (X : Stand p l e R s m args below meth c T locs cells slots) (hx : p.tables.exec = Jvm.exec) {x y : Int32} {o : Int} {pt pf : Nat} (hd : decode c.code pc = .ok (.if_icmp .gt o, 3)) (hf : pc + 3 = pf) (ho : 0 ≤ (pc : Int) + o) (hp : ((pc : Int) + o).toNat = pt)
    (kT : y < x → Go p e below s cm sm Q T (mkF m pt Ls St)) (kF : ¬ (y < x) → Go p e below s cm sm Q T (mkF m pf Ls St)) : Go p e below s cm sm Q T (mkF m pc Ls (.int y :: .int x :: St)) :=
  w_icmp0 X hx hd hf ho hp (fun h => kT (h_gt.1 h)) (fun h => kF (h_gt.2 h))
theorem w_if_gt (X : Stand p l e R s m args below meth c T locs cells slots) (hx : p.tables.exec = Jvm.exec) {x : Int32} {o : Int} {pt pf : Nat} (hd : decode c.code pc = .ok (.ifCond .gt o, 3)) (hf : pc + 3 = pf) (ho : 0 ≤ (pc : Int) + o) (hp : ((pc : Int) + o).toNat = pt)
    (kT : 0 < x → Go p e below s cm sm Q T (mkF m pt Ls St)) (kF : ¬ (0 < x) → Go p e below s cm sm Q T (mkF m pf Ls St)) : Go p e below s cm sm Q T (mkF m pc Ls (.int x :: St)) :=
  w_if0 X hx hd hf ho hp (fun h => kT (h_gt.1 h)) (fun h => kF (h_gt.2 h))
theorem w_ifL_gt (X : Stand p l e R s m args below meth c T locs cells slots) (hx : p.tables.exec = Jvm.exec) {x y : Int64} {o : Int} {pt pf : Nat} (hd : decode c.code pc = .ok (.ifCond .gt o, 3)) (hf : pc + 3 = pf) (ho : 0 ≤ (pc : Int) + o) (hp : ((pc : Int) + o).toNat = pt)
    (kT : y < x → Go p e below s cm sm Q T (mkF m pt Ls St)) (kF : ¬ (y < x) → Go p e below s cm sm Q T (mkF m pf Ls St)) : Go p e below s cm sm Q T (mkF m pc Ls (.int (lcmpW x y) :: St)) :=
  w_if_gt X hx hd hf ho hp (fun q => kT ((lw_gt x y).1 q)) (fun q => kF (fun r => q ((lw_gt x y).2 r)))
theorem w_icmp_le (X : Stand p l e R s m args below meth c T locs cells slots) (hx : p.tables.exec = Jvm.exec) {x y : Int32} {o : Int} {pt pf : Nat} (hd : decode c.code pc = .ok (.if_icmp .le o, 3)) (hf : pc + 3 = pf) (ho : 0 ≤ (pc : Int) + o) (hp : ((pc : Int) + o).toNat = pt)
    (kT : ¬ (y < x) → Go p e below s cm sm Q T (mkF m pt Ls St)) (kF : y < x → Go p e below s cm sm Q T (mkF m pf Ls St)) : Go p e below s cm sm Q T (mkF m pc Ls (.int y :: .int x :: St)) :=
  w_icmp0 X hx hd hf ho hp (fun h => kT (h_le.1 h)) (fun h => kF (h_le.2 h))
theorem w_if_le (X : Stand p l e R s m args below meth c T locs cells slots) (hx : p.tables.exec = Jvm.exec) {x : Int32} {o : Int} {pt pf : Nat} (hd : decode c.code pc = .ok (.ifCond .le o, 3)) (hf : pc + 3 = pf) (ho : 0 ≤ (pc : Int) + o) (hp : ((pc : Int) + o).toNat = pt)
    (kT : ¬ (0 < x) → Go p e below s cm sm Q T (mkF m pt Ls St)) (kF : 0 < x → Go p e below s cm sm Q T (mkF m pf Ls St)) : Go p e below s cm sm Q T (mkF m pc Ls (.int x :: St)) :=
  w_if0 X hx hd hf ho hp (fun h => kT (h_le.1 h)) (fun h => kF (h_le.2 h))
theorem w_ifL_le (X : Stand p l e R s m args below meth c T locs cells slots) (hx : p.tables.exec = Jvm.exec) {x y : Int64} {o : Int} {pt pf : Nat} (hd : decode c.code pc = .ok (.ifCond .le o, 3)) (hf : pc + 3 = pf) (ho : 0 ≤ (pc : Int) + o) (hp : ((pc : Int) + o).toNat = pt)
    (kT : ¬ (y < x) → Go p e below s cm sm Q T (mkF m pt Ls St)) (kF : y < x → Go p e below s cm sm Q T (mkF m pf Ls St)) : Go p e below s cm sm Q T (mkF m pc Ls (.int (lcmpW x y) :: St)) :=
  w_if_le X hx hd hf ho hp (fun q => kT (fun r => q ((lw_gt x y).2 r))) (fun q => kF ((lw_gt x y).1 q))
theorem w_icmp_eq (X : Stand p l e R s m args below meth c T locs cells slots) (hx : p.tables.exec = Jvm.exec) {x y : Int32} {o : Int} {pt pf : Nat} (hd : decode c.code pc = .ok (.if_icmp .eq o, 3)) (hf : pc + 3 = pf) (ho : 0 ≤ (pc : Int) + o) (hp : ((pc : Int) + o).toNat = pt)
    (kT : x = y → Go p e below s cm sm Q T (mkF m pt Ls St)) (kF : ¬ (x = y) → Go p e below s cm sm Q T (mkF m pf Ls St)) : Go p e below s cm sm Q T (mkF m pc Ls (.int y :: .int x :: St)) :=
  w_icmp0 X hx hd hf ho hp (fun h => kT (h_eq.1 h)) (fun h => kF (h_eq.2 h))
theorem w_if_eq (X : Stand p l e R s m args below meth c T locs cells slots) (hx : p.tables.exec = Jvm.exec) {x : Int32} {o : Int} {pt pf : Nat} (hd : decode c.code pc = .ok (.ifCond .eq o, 3)) (hf : pc + 3 = pf) (ho : 0 ≤ (pc : Int) + o) (hp : ((pc : Int) + o).toNat = pt)
    (kT : x = 0 → Go p e below s cm sm Q T (mkF m pt Ls St)) (kF : ¬ (x = 0) → Go p e below s cm sm Q T (mkF m pf Ls St)) : Go p e below s cm sm Q T (mkF m pc Ls (.int x :: St)) :=
  w_if0 X hx hd hf ho hp (fun h => kT (h_eq.1 h)) (fun h => kF (h_eq.2 h))
theorem w_ifL_eq (X : Stand p l e R s m args below meth c T locs cells slots) (hx : p.tables.exec = Jvm.exec) {x y : Int64} {o : Int} {pt pf : Nat} (hd : decode c.code pc = .ok (.ifCond .eq o, 3)) (hf : pc + 3 = pf) (ho : 0 ≤ (pc : Int) + o) (hp : ((pc : Int) + o).toNat = pt)
    (kT : x = y → Go p e below s cm sm Q T (mkF m pt Ls St)) (kF : ¬ (x = y) → Go p e below s cm sm Q T (mkF m pf Ls St)) : Go p e below s cm sm Q T (mkF m pc Ls (.int (lcmpW x y) :: St)) :=
  w_if_eq X hx hd hf ho hp (fun q => kT ((lw_eq x y).1 q)) (fun q => kF (fun r => q ((lw_eq x y).2 r)))
theorem w_icmp_ne (X : Stand p l e R s m args below meth c T locs cells slots) (hx : p.tables.exec = Jvm.exec) {x y : Int32} {o : Int} {pt pf : Nat} (hd : decode c.code pc = .ok (.if_icmp .ne o, 3)) (hf : pc + 3 = pf) (ho : 0 ≤ (pc : Int) + o) (hp : ((pc : Int) + o).toNat = pt)
    (kT : ¬ (x = y) → Go p e below s cm sm Q T (mkF m pt Ls St)) (kF : x = y → Go p e below s cm sm Q T (mkF m pf Ls St)) : Go p e below s cm sm Q T (mkF m pc Ls (.int y :: .int x :: St)) :=
  w_icmp0 X hx hd hf ho hp (fun h => kT (h_ne.1 h)) (fun h => kF (h_ne.2 h))
theorem w_if_ne (X : Stand p l e R s m args below meth c T locs cells slots) (hx : p.tables.exec = Jvm.exec) {x : Int32} {o : Int} {pt pf : Nat} (hd : decode c.code pc = .ok (.ifCond .ne o, 3)) (hf : pc + 3 = pf) (ho : 0 ≤ (pc : Int) + o) (hp : ((pc : Int) + o).toNat = pt)
    (kT : ¬ (x = 0) → Go p e below s cm sm Q T (mkF m pt Ls St)) (kF : x = 0 → Go p e below s cm sm Q T (mkF m pf Ls St)) : Go p e below s cm sm Q T (mkF m pc Ls (.int x :: St)) :=
  w_if0 X hx hd hf ho hp (fun h => kT (h_ne.1 h)) (fun h => kF (h_ne.2 h))
theorem w_ifL_ne (X : Stand p l e R s m args below meth c T locs cells slots) (hx : p.tables.exec = Jvm.exec) {x y : Int64} {o : Int} {pt pf : Nat} (hd : decode c.code pc = .ok (.ifCond .ne o, 3)) (hf : pc + 3 = pf) (ho : 0 ≤ (pc : Int) + o) (hp : ((pc : Int) + o).toNat = pt)
    (kT : ¬ (x = y) → Go p e below s cm sm Q T (mkF m pt Ls St)) (kF : x = y → Go p e below s cm sm Q T (mkF m pf Ls St)) : Go p e below s cm sm Q T (mkF m pc Ls (.int (lcmpW x y) :: St)) :=
  w_if_ne X hx hd hf ho hp (fun q => kT (fun r => q ((lw_eq x y).2 r))) (fun q => kF ((lw_eq x y).1 q))
theorem w_ldc (X : Stand p l e R s m args below meth c T locs cells slots) (hx : p.tables.exec = Jvm.exec) (hZ : Z.Warmed39 s.vm) {own : String} {index : Nat} {v : Int32} (hown : s.vm.findClass own = some m.cls) (w : (Jvm.Cond.constant own index v).before a0 Z = true) (hd : decode c.code pc = .ok (.ldc index, 2)) (hp : pc + 2 = pc')
    (kk : Go p e below s cm sm Q T (mkF m pc' Ls (.int v :: St))) : Go p e below s cm sm Q T (mkF m pc Ls St) := by
  subst hp
  exact Go.st (fun t q => X.ldcInt hx hown (mvT hZ w) (g := mkF m pc Ls St) rfl hd t q) kk
theorem w_ldcw (X : Stand p l e R s m args below meth c T locs cells slots) (hx : p.tables.exec = Jvm.exec) (hZ : Z.Warmed39 s.vm) {own : String} {index : Nat} {v : Int32} (hown : s.vm.findClass own = some m.cls) (w : (Jvm.Cond.constant own index v).before a0 Z = true) (hd : decode c.code pc = .ok (.ldc_w index, 3)) (hp : pc + 3 = pc')
    (kk : Go p e below s cm sm Q T (mkF m pc' Ls (.int v :: St))) : Go p e below s cm sm Q T (mkF m pc Ls St) := by
  subst hp
  exact Go.st (fun t q => X.ldcWI hx hown (mvT hZ w) (g := mkF m pc Ls St) rfl hd q) kk
theorem w_ldc2 (X : Stand p l e R s m args below meth c T locs cells slots) (hx : p.tables.exec = Jvm.exec) (hZ : Z.Warmed39 s.vm) {own : String} {index : Nat} {v : Int64} (hown : s.vm.findClass own = some m.cls) (w : (Jvm.Cond.constantLong own index v).before a0 Z = true) (hd : decode c.code pc = .ok (.ldc2_w index, 3)) (hp : pc + 3 = pc')
    (kk : Go p e below s cm sm Q T (mkF m pc' Ls (.long v :: St))) : Go p e below s cm sm Q T (mkF m pc Ls St) := by
  subst hp
  exact Go.st (fun t q => X.ldc2Long hx hown (mvT hZ w) (g := mkF m pc Ls St) rfl hd t q) kk
theorem w_retZ (X : Stand p l e R s m args below meth c T locs cells slots) (hx : p.tables.exec = Jvm.exec) (hret : meth.sig.returnType = some .boolean) (hlk : meth.locks = false) {z : Int32} (hd : decode c.code pc = .ok (.ireturn, 1)) (hc : cells ≤ cm) (hs : slots ≤ sm) (hQ : Q (some (.int (nar .boolean z))) T.heap locs) : Go p e below s cm sm Q T (mkF m pc Ls (.int z :: St)) := by
  obtain ⟨fs, hr, hrun, hended, hW, hsame⟩ := X.leave (v := some (.int (nar .boolean z))) (fun h => by rw [hret] at h; cases h) hlk
  exact ⟨_, _, retN X hx (t := .boolean) hret (by simp) hd hr, hrun, hended, _, _, rfl, hQ, ⟨_, rfl⟩, hW, hsame.mono hc hs⟩
theorem w_retB (X : Stand p l e R s m args below meth c T locs cells slots) (hx : p.tables.exec = Jvm.exec) (hret : meth.sig.returnType = some .byte) (hlk : meth.locks = false) {z : Int32} (hd : decode c.code pc = .ok (.ireturn, 1)) (hc : cells ≤ cm) (hs : slots ≤ sm) (hQ : Q (some (.int (nar .byte z))) T.heap locs) : Go p e below s cm sm Q T (mkF m pc Ls (.int z :: St)) := by
  obtain ⟨fs, hr, hrun, hended, hW, hsame⟩ := X.leave (v := some (.int (nar .byte z))) (fun h => by rw [hret] at h; cases h) hlk
  exact ⟨_, _, retN X hx (t := .byte) hret (by simp) hd hr, hrun, hended, _, _, rfl, hQ, ⟨_, rfl⟩, hW, hsame.mono hc hs⟩
theorem w_retC (X : Stand p l e R s m args below meth c T locs cells slots) (hx : p.tables.exec = Jvm.exec) (hret : meth.sig.returnType = some .char) (hlk : meth.locks = false) {z : Int32} (hd : decode c.code pc = .ok (.ireturn, 1)) (hc : cells ≤ cm) (hs : slots ≤ sm) (hQ : Q (some (.int (nar .char z))) T.heap locs) : Go p e below s cm sm Q T (mkF m pc Ls (.int z :: St)) := by
  obtain ⟨fs, hr, hrun, hended, hW, hsame⟩ := X.leave (v := some (.int (nar .char z))) (fun h => by rw [hret] at h; cases h) hlk
  exact ⟨_, _, retN X hx (t := .char) hret (by simp) hd hr, hrun, hended, _, _, rfl, hQ, ⟨_, rfl⟩, hW, hsame.mono hc hs⟩
theorem w_retS (X : Stand p l e R s m args below meth c T locs cells slots) (hx : p.tables.exec = Jvm.exec) (hret : meth.sig.returnType = some .short) (hlk : meth.locks = false) {z : Int32} (hd : decode c.code pc = .ok (.ireturn, 1)) (hc : cells ≤ cm) (hs : slots ≤ sm) (hQ : Q (some (.int (nar .short z))) T.heap locs) : Go p e below s cm sm Q T (mkF m pc Ls (.int z :: St)) := by
  obtain ⟨fs, hr, hrun, hended, hW, hsame⟩ := X.leave (v := some (.int (nar .short z))) (fun h => by rw [hret] at h; cases h) hlk
  exact ⟨_, _, retN X hx (t := .short) hret (by simp) hd hr, hrun, hended, _, _, rfl, hQ, ⟨_, rfl⟩, hW, hsame.mono hc hs⟩
theorem w_retI (X : Stand p l e R s m args below meth c T locs cells slots) (hx : p.tables.exec = Jvm.exec) (hret : meth.sig.returnType = some .int) (hlk : meth.locks = false) {z : Int32} (hd : decode c.code pc = .ok (.ireturn, 1)) (hc : cells ≤ cm) (hs : slots ≤ sm) (hQ : Q (some (.int z)) T.heap locs) : Go p e below s cm sm Q T (mkF m pc Ls (.int z :: St)) := by
  obtain ⟨fs, hr, hrun, hended, hW, hsame⟩ := X.leave (v := some (.int z)) (fun h => by rw [hret] at h; cases h) hlk
  refine ⟨T.setFrames fs, _, ?_, hrun, hended, _, _, rfl, hQ, ⟨_, rfl⟩, hW, hsame.mono hc hs⟩
  have hm' : T.vm.method? m = some meth := X.method'
  have hn : narrow .int (.int z) = .int z := rfl
  show Steps p.tables e below (T.setTop { method := m, pc := pc, locals := Ls, stack := .int z :: St, locked := none }) _
  jvm_step X.here [X.here.top, hx, hd, hm', hret, hn]
  first | (intro acts; rw [hr _ acts rfl rfl rfl]) | rw [hr _ _ rfl rfl rfl]
  exact Steps.refl _
theorem w_retJ (X : Stand p l e R s m args below meth c T locs cells slots) (hx : p.tables.exec = Jvm.exec) (hret : meth.sig.returnType = some .long) (hlk : meth.locks = false) {z : Int64} (hd : decode c.code pc = .ok (.lreturn, 1)) (hc : cells ≤ cm) (hs : slots ≤ sm) (hQ : Q (some (.long z)) T.heap locs) : Go p e below s cm sm Q T (mkF m pc Ls [.long z]) := by
  obtain ⟨fs, hr, hrun, hended, hW, hsame⟩ := X.leave (v := some (.long z)) (fun h => by rw [hret] at h; cases h) hlk
  exact ⟨T.setFrames fs, _, X.lreturnOut hx hret hd hr, hrun, hended, _, _, rfl, hQ, ⟨_, rfl⟩, hW, hsame.mono hc hs⟩
theorem w_retV (X : Stand p l e R s m args below meth c T locs cells slots) (hx : p.tables.exec = Jvm.exec) (hret : meth.sig.returnType = none) (hlk : meth.locks = false) (hd : decode c.code pc = .ok (.return_, 1)) (hc : cells ≤ cm) (hs : slots ≤ sm) (hQ : Q none T.heap locs) : Go p e below s cm sm Q T (mkF m pc Ls []) := by
  obtain ⟨fs, hr, hrun, hended, hW, hsame⟩ := X.leave (v := none) (fun _ => rfl) hlk
  exact ⟨T.setFrames fs, _, X.returnOut hx hret hd hr, hrun, hended, _, _, rfl, hQ, ⟨_, rfl⟩, hW, hsame.mono hc hs⟩
theorem w_retA (X : Stand p l e R s m args below meth c T locs cells slots) (hx : p.tables.exec = Jvm.exec) {rt : FieldType} (hret : meth.sig.returnType = some rt) (hrt : rt.isReference = true) (hlk : meth.locks = false) {a : Addr} (hd : decode c.code pc = .ok (.areturn, 1)) (hc : cells ≤ cm) (hs : slots ≤ sm) (hQ : Q (some (.ref a)) T.heap locs) : Go p e below s cm sm Q T (mkF m pc Ls (.ref a :: St)) := by
  obtain ⟨fs, hr, hrun, hended, hW, hsame⟩ := X.leave (v := some (.ref a)) (fun h => by rw [hret] at h; cases h) hlk
  refine ⟨T.setFrames fs, _, ?_, hrun, hended, _, _, rfl, hQ, ⟨_, rfl⟩, hW, hsame.mono hc hs⟩
  have hm' : T.vm.method? m = some meth := X.method'
  show Steps p.tables e below (T.setTop { method := m, pc := pc, locals := Ls, stack := .ref a :: St, locked := none }) _
  jvm_step X.here [X.here.top, hx, hd, hm', hret, Value.isRef, hrt]
  first | (intro acts; rw [hr _ acts rfl rfl rfl]) | rw [hr _ _ rfl rfl rfl]
  exact Steps.refl _
theorem Con.back {y : MethodName} {bytes : ByteArray} {maxL : Nat} {ret : Option FieldType} {rm : Room} {len W : Nat} {as' : Array Value} {Qc : Option Value → Heap → List Loc → Prop} (C : Con l Z y bytes maxL ret rm as' h Qc) (hZ : Z.Warmed39 s.vm) (wc : (Jvm.Cond.code y bytes maxL ret).before a0 Z = true) (wz : (Jvm.Cond.initialized y.cls).before a0 Z = true) (hf : rm.frames + 1 ≤ R.frames) (hl : W + (maxL + 11) + rm.locals ≤ R.locals) :
    Back l R p e below s args y len W (fun A a => a = as' ∧ A.U.heap = h ∧ A.cells + rm.cells ≤ R.cells ∧ A.slots + rm.slots ≤ R.slots) (fun A _ v B => ∃ L, Qc v B.U.heap L ∧ B.locs = A.locs ++ L ∧ B.cells = A.cells + rm.cells ∧ B.slots = A.slots + rm.slots) :=
  backOf (C []) hZ wc wz hf hl
theorem w_callS (X : Stand p l e R s m args below meth c T locs cells slots) (hx : p.tables.exec = Jvm.exec) (hZ : Z.Warmed39 s.vm) {own : String} {index : Nat} {y : MethodName} {bytes : ByteArray} {maxL : Nat} {ret : Option FieldType} {rm : Room} {W : Nat} {argsL rest : List Value} {Qc : Option Value → Heap → List Loc → Prop} (hown : s.vm.findClass own = some m.cls) (eT : T.heap = h) (C : Con l Z y bytes maxL ret rm argsL.toArray h Qc) (w1 : (Jvm.Cond.methodLink own index y).before a0 Z = true) (w2 : (Jvm.Cond.static y).before a0 Z = true) (w3 : (Jvm.Cond.initialized y.cls).before a0 Z = true) (w4 : (Jvm.Cond.code y bytes maxL ret).before a0 Z = true) (hy : y.cls ≠ "java/lang/invoke/MethodHandle" ∧ y.cls ≠ "java/lang/invoke/VarHandle")
    (hf : rm.frames + 1 ≤ R.frames) (hl : W + (maxL + 11) + rm.locals ≤ R.locals) (hc : cells + rm.cells ≤ R.cells) (hs : slots + rm.slots ≤ R.slots) (hsz : Ls.size = c.maxLocals) (hlen : ∀ sig, parseMethodDescriptor y.desc = some sig → argsL.length = sig.parameters.length) (hW : (rest.map fun v => v.category).sum ≤ W) (hst : St = argsL.reverse ++ rest) (hd : decode c.code pc = .ok (.invokestatic index, 3)) (hp : pc + 3 = pc')
    (kk : ∀ (T' : State) (L : List Loc) (v : Option Value), Stand p l e R s m args below meth c T' (locs ++ L) (cells + rm.cells) (slots + rm.slots) → Qc v T'.heap L → Go p e below s cm sm Q T' (mkF m pc' Ls (v.toList ++ rest))) : Go p e below s cm sm Q T (mkF m pc Ls St) := by
  subst hp hst
  obtain ⟨v, _, ⟨T1, L1, k1, n1⟩, -, X1, ⟨Lc, hQ, l1, y1, z1⟩, st⟩ := Jvm.LawKit.callS X hx (y := y) hown (mvT hZ w1) (mvT hZ w2) (mvT hZ w3) (mvT hZ w4) hy (C.back (W := W) hZ w4 w3 hf hl) (g := mkF m pc Ls (argsL.reverse ++ rest)) rfl hsz (argsL := argsL) (rest := rest) hlen rfl (by show 2 * 0 + _ ≤ _; rw [Nat.mul_zero, Nat.zero_add]; exact hW) hd (fun _ _ => ⟨rfl, eT, hc, hs⟩)
  dsimp only [Pt.U, Pt.locs, Pt.cells, Pt.slots] at X1 l1 y1 z1 st hQ
  subst l1 y1 z1
  exact Go.st st (kk _ _ _ X1 hQ)
theorem w_callI (X : Stand p l e R s m args below meth c T locs cells slots) (hx : p.tables.exec = Jvm.exec) (hZ : Z.Warmed39 s.vm) {own : String} {index : Nat} {y : MethodName} {bytes : ByteArray} {maxL : Nat} {rm : Room} {W : Nat} {argsL rest : List Value} {Qc : Option Value → Heap → List Loc → Prop} {a : Addr} (hown : s.vm.findClass own = some m.cls) (eT : T.heap = h) (C : Con l Z y bytes maxL none rm (.ref a :: argsL).toArray h Qc) (hn : y.name = "<init>") (w1 : (Jvm.Cond.methodLink own index y).before a0 Z = true) (w2 : (Jvm.Cond.instanceMethod y).before a0 Z = true) (w3 : (Jvm.Cond.initialized y.cls).before a0 Z = true) (w4 : (Jvm.Cond.code y bytes maxL none).before a0 Z = true) (hy : y.cls ≠ "java/lang/invoke/MethodHandle" ∧ y.cls ≠ "java/lang/invoke/VarHandle")
    (hf : rm.frames + 1 ≤ R.frames) (hl : W + (maxL + 11) + rm.locals ≤ R.locals) (hc : cells + rm.cells ≤ R.cells) (hs : slots + rm.slots ≤ R.slots) (hsz : Ls.size = c.maxLocals) (hlen : ∀ sig, parseMethodDescriptor y.desc = some sig → argsL.length = sig.parameters.length) (hW : (rest.map fun v => v.category).sum ≤ W) (hst : St = argsL.reverse ++ .ref a :: rest) (hd : decode c.code pc = .ok (.invokespecial index, 3)) (hp : pc + 3 = pc')
    (kk : ∀ (T' : State) (L : List Loc) (v : Option Value), Stand p l e R s m args below meth c T' (locs ++ L) (cells + rm.cells) (slots + rm.slots) → Qc v T'.heap L → Go p e below s cm sm Q T' (mkF m pc' Ls (v.toList ++ rest))) : Go p e below s cm sm Q T (mkF m pc Ls St) := by
  subst hp hst
  obtain ⟨v, _, ⟨T1, L1, k1, n1⟩, -, X1, ⟨Lc, hQ, l1, y1, z1⟩, st⟩ := X.specialBack hx (y := y) hn hown (mvT hZ w1) (mvT hZ w2) (mvT hZ w4) hy (C.back (W := W) hZ w4 w3 hf hl) (g := mkF m pc Ls (argsL.reverse ++ .ref a :: rest)) rfl hsz (Steps.refl _) (a := a) (argsL := argsL) (rest := rest) hlen rfl (by show 2 * 0 + _ ≤ _; rw [Nat.mul_zero, Nat.zero_add]; exact hW) hd (fun _ _ => ⟨rfl, eT, hc, hs⟩)
  dsimp only [Pt.U, Pt.locs, Pt.cells, Pt.slots] at X1 l1 y1 z1 st hQ
  subst l1 y1 z1
  exact Go.st (fun t q => st.trans q) (kk _ _ _ X1 hQ)
theorem w_callV (X : Stand p l e R s m args below meth c T locs cells slots) (hx : p.tables.exec = Jvm.exec) (hZ : Z.Warmed39 s.vm) {own : String} {index : Nat} {y : MethodName} {bytes : ByteArray} {maxL : Nat} {ret : Option FieldType} {rm : Room} {W : Nat} {argsL rest : List Value} {Qc : Option Value → Heap → List Loc → Prop} {a : Addr} (hown : s.vm.findClass own = some m.cls) (eT : T.heap = h) (E : Exa Z h a y.cls) (C : Con l Z y bytes maxL ret rm (.ref a :: argsL).toArray h Qc) (w1 : (Jvm.Cond.methodLink own index y).before a0 Z = true) (wd : (Jvm.Cond.declares y).before a0 Z = true) (ws : (Jvm.Cond.selects y.cls y y).before a0 Z = true) (w2 : (Jvm.Cond.instanceMethod y).before a0 Z = true) (w3 : (Jvm.Cond.initialized y.cls).before a0 Z = true) (w4 : (Jvm.Cond.code y bytes maxL ret).before a0 Z = true) (hy : y.cls ≠ "java/lang/invoke/MethodHandle" ∧ y.cls ≠ "java/lang/invoke/VarHandle")
    (hf : rm.frames + 1 ≤ R.frames) (hl : W + (maxL + 11) + rm.locals ≤ R.locals) (hc : cells + rm.cells ≤ R.cells) (hs : slots + rm.slots ≤ R.slots) (hsz : Ls.size = c.maxLocals) (hlen : ∀ sig, parseMethodDescriptor y.desc = some sig → argsL.length = sig.parameters.length) (hW : (rest.map fun v => v.category).sum ≤ W) (hst : St = argsL.reverse ++ .ref a :: rest) (hd : decode c.code pc = .ok (.invokevirtual index, 3)) (hp : pc + 3 = pc')
    (kk : ∀ (T' : State) (L : List Loc) (v : Option Value), Stand p l e R s m args below meth c T' (locs ++ L) (cells + rm.cells) (slots + rm.slots) → Qc v T'.heap L → Go p e below s cm sm Q T' (mkF m pc' Ls (v.toList ++ rest))) : Go p e below s cm sm Q T (mkF m pc Ls St) := by
  subst hp hst
  obtain ⟨cq, kq, qa, qb, qc⟩ := isOf hZ eT E
  obtain ⟨v, _, ⟨T1, L1, k1, n1⟩, -, X1, ⟨Lc, hQ, l1, y1, z1⟩, st⟩ := X.virtualBack hx (y := y) (z := y) hown (mvT hZ w1) (mvT hZ wd) (notFace_of_selects (args := #[]) (mvT hZ ws)) (mvT hZ ws) (mvT hZ w2) hy (C.back (W := W) hZ w4 w3 hf hl) qa qc (g := mkF m pc Ls (argsL.reverse ++ .ref a :: rest)) rfl hsz (Steps.refl _) (argsL := argsL) (rest := rest) hlen rfl (by show 2 * 0 + _ ≤ _; rw [Nat.mul_zero, Nat.zero_add]; exact hW) hd (fun _ _ => ⟨rfl, eT, hc, hs⟩)
  dsimp only [Pt.U, Pt.locs, Pt.cells, Pt.slots] at X1 l1 y1 z1 st hQ
  subst l1 y1 z1
  exact Go.st (fun t q => st.trans q) (kk _ _ _ X1 hQ)
theorem w_initO (X : Stand p l e R s m args below meth c T locs cells slots) (hx : p.tables.exec = Jvm.exec) (hZ : Z.Warmed39 s.vm) {own : String} {index : Nat} {a : Addr} (hown : s.vm.findClass own = some m.cls) (eT : T.heap = h) (w1 : (Jvm.Cond.methodLink own index Lib.objectInit).before a0 Z = true) (w2 : (Jvm.Cond.instanceMethod Lib.objectInit).before a0 Z = true) (w3 : (Jvm.Cond.code Lib.objectInit ⟨#[0xb1]⟩ 1 none).before a0 Z = true) (hsz : Ls.size = c.maxLocals) (hd : decode c.code pc = .ok (.invokespecial index, 3)) (hf : 1 ≤ R.frames) {W : Nat} (hW : (St.map fun v => v.category).sum ≤ W) (hl : W + 12 ≤ R.locals) (hp : pc + 3 = pc')
    (kk : ∀ T' : State, Stand p l e R s m args below meth c T' locs cells slots → T'.heap = h → Go p e below s cm sm Q T' (mkF m pc' Ls St)) : Go p e below s cm sm Q T (mkF m pc Ls (.ref a :: St)) := by
  subst hp
  obtain ⟨T1, X1, e1, st⟩ := initO X hx hZ hown w1 w2 w3 eT (g := mkF m pc Ls (.ref a :: St)) rfl hsz rfl hd hf (W := W) (by show 2 * 0 + _ ≤ _; rw [Nat.mul_zero, Nat.zero_add]; exact hW) hl
  exact Go.st st (kk _ X1 e1)
theorem w_getF (X : Stand p l e R s m args below meth c T locs cells slots) (hx : p.tables.exec = Jvm.exec) (hZ : Z.Warmed39 s.vm) {own O n d : String} {index : Nat} {a : Addr} {v : Value} (hown : s.vm.findClass own = some m.cls) (eT : T.heap = h) (F : Fld Z h a O n d v) (w : (Jvm.Cond.fieldLink own index O n d).before a0 Z = true) (hd : decode c.code pc = .ok (.getfield index, 3)) (hp : pc + 3 = pc')
    (kk : ∀ T' : State, Stand p l e R s m args below meth c T' locs cells slots → T'.heap = h → Go p e below s cm sm Q T' (mkF m pc' Ls (v :: St))) : Go p e below s cm sm Q T (mkF m pc Ls (.ref a :: St)) := by
  subst hp
  obtain ⟨T1, X1, e1, st⟩ := getF X hx hZ hown (host := "") (Or.inl w) Via.refl eT F (g := mkF m pc Ls (.ref a :: St)) rfl rfl hd
  exact Go.st st (kk _ X1 e1)
theorem w_putF (X : Stand p l e R s m args below meth c T locs cells slots) (hx : p.tables.exec = Jvm.exec) (hZ : Z.Warmed39 s.vm) {own O n d C : String} {index kn : Nat} {ty : FieldType} {a : Addr} {v old : Value} (hown : s.vm.findClass own = some m.cls) (eT : T.heap = h) (F : Fld Z h a O n d old) (E : Exa Z h a C) (w : (Jvm.Cond.fieldLink own index O n d).before a0 Z = true) (L : (Jvm.Cond.lays C O n d).before a0 Z = true ∨ ((Jvm.Cond.laysFinal C O n d).before a0 Z = true ∧ own = O ∧ meth.name = "<init>")) (wi : (Jvm.Cond.instantiable C kn).before a0 Z = true) (hty : parseFieldDescriptor d = some ty) (hn : narrow ty v = v) (hf : fits ty v = true) (hd : decode c.code pc = .ok (.putfield index, 3)) (hp : pc + 3 = pc')
    (kk : ∀ (T' : State) (h' : Heap), Stand p l e R s m args below meth c T' (locs ++ [⟨a, RoadKit.slotOf Z O n d⟩]) cells slots → T'.heap = h' → Wr h h' a (RoadKit.slotOf Z O n d) v → Go p e below s cm sm Q T' (mkF m pc' Ls St)) : Go p e below s cm sm Q T (mkF m pc Ls (v :: .ref a :: St)) := by
  subst hp
  obtain ⟨T1, h1, X1, e1, W1, st⟩ := putF X hx hZ hown (host := "") (Or.inl w) Via.refl eT F E L wi hty hn hf (g := mkF m pc Ls (v :: .ref a :: St)) rfl rfl hd
  exact Go.st st (kk _ _ X1 e1 W1)
theorem w_newO (X : Stand p l e R s m args below meth c T locs cells slots) (hx : p.tables.exec = Jvm.exec) (hZ : Z.Warmed39 s.vm) {own C : String} {index kn : Nat} (hown : s.vm.findClass own = some m.cls) (eT : T.heap = h) (w : (Jvm.Cond.classLink own index C).before a0 Z = true) (wi : (Jvm.Cond.instantiable C kn).before a0 Z = true) (wz : (Jvm.Cond.initialized C).before a0 Z = true) (hd : decode c.code pc = .ok (.new index, 3)) (hc : cells + 1 ≤ R.cells) (hl : slots + kn ≤ R.slots) (hp : pc + 3 = pc')
    (kk : ∀ (T' : State) (h' : Heap) (b : Addr), Stand p l e R s m args below meth c T' locs (cells + 1) (slots + kn) → T'.heap = h' → Ext h h' → b = h.size → Exa Z h' b C → (∀ {O nm d : String} {ty : FieldType}, Laid Z a0 C O nm d → parseFieldDescriptor d = some ty → Fld Z h' b O nm d (defaultValue ty)) → Go p e below s cm sm Q T' (mkF m pc' Ls (.ref b :: St))) : Go p e below s cm sm Q T (mkF m pc Ls St) := by
  subst hp
  obtain ⟨T1, h1, X1, e1, E1, A1, D1, -, st⟩ := newO X hx hZ hown w wi wz eT (g := mkF m pc Ls St) rfl hd hc hl
  exact Go.st st (kk _ _ _ X1 e1 E1 rfl A1 D1)
/-- an array of ints, bytes, chars, shorts or booleans, by its list -/
def AI (Z : State) (h : Heap) (a : Addr) (ty : FieldType) (vs : List Int32) : Prop := ∃ c : Cell, Arr Z h a c ty ∧ c.slots.toList = vs.map Value.int ∧ vs.length < 2147483648
/-- an array of longs, by its list -/
def AJ (Z : State) (h : Heap) (a : Addr) (vs : List Int64) : Prop := ∃ c : Cell, Arr Z h a c .long ∧ c.slots.toList = vs.map Value.long ∧ vs.length < 2147483648
theorem AI.lt {a : Addr} {ty : FieldType} {vs : List Int32} (F : AI Z h a ty vs) : a < h.size := by obtain ⟨c, q, -⟩ := F; exact q.lt
theorem AI.ext {a : Addr} {ty : FieldType} {vs : List Int32} (F : AI Z h a ty vs) (E : Ext h h') : AI Z h' a ty vs := by obtain ⟨c, q, r⟩ := F; exact ⟨c, q.ext E, r⟩
theorem AI.other {a b : Addr} {ty : FieldType} {vs : List Int32} {sl : Nat} {v : Value} (F : AI Z h a ty vs) (W : Wr h h' b sl v) (q : a ≠ b) : AI Z h' a ty vs := by obtain ⟨c, A, r⟩ := F; exact ⟨c, A.other W q, r⟩
theorem AI.keep {a : Addr} {ty : FieldType} {vs : List Int32} {ws : List Addr} (F : AI Z h a ty vs) (K : Keep h h' ws) (q : a ∉ ws) : AI Z h' a ty vs := by obtain ⟨c, A, r⟩ := F; exact ⟨c, ⟨K.2.1 a c A.1 q, A.2⟩, r⟩
theorem AI.new {a : Addr} {k : ClassId} {z : Int32} {ty : FieldType} (A : Arr Z h a (newA k ty z) ty) (hd : defaultValue ty = .int 0) : AI Z h a ty (List.replicate z.toNatClampNeg 0) := by
  refine ⟨_, A, ?_, ?_⟩
  · simp [newA, hd]
  · have := z.toInt_lt; rw [List.length_replicate]; show z.toInt.toNat < _; omega
theorem AI.wr {a : Addr} {ty : FieldType} {vs : List Int32} {j : Nat} {x : Int32} (F : AI Z h a ty vs) (W : Wr h h' a j (Value.int x)) : AI Z h' a ty (vs.set j x) := by
  obtain ⟨c, A, q, r⟩ := F
  refine ⟨_, A.same W, ?_, by simpa using r⟩
  simp [Cell.setSlot, q, List.map_set]
theorem AI.len {a : Addr} {ty : FieldType} {vs : List Int32} (F : AI Z h a ty vs) : vs.length < 2147483648 := by obtain ⟨c, q, r, t⟩ := F; exact t
theorem AI.sz {vs : List Int32} {c : Cell} (q : c.slots.toList = vs.map Value.int) : c.slots.size = vs.length := by
  have := congrArg List.length q; simpa using this
theorem AI.at {vs : List Int32} {c : Cell} {j : Nat} {x : Int32} (q : c.slots.toList = vs.map Value.int) (hv : vs[j]? = some x) : c.slots[j]? = some (Value.int x) := by
  rw [← Array.getElem?_toList, q]; simp [hv]
theorem AI.inb {vs : List Int32} {c : Cell} {j : Int32} (q : c.slots.toList = vs.map Value.int) (hj : ¬ j < 0) (hl : j.toNatClampNeg < vs.length) : ¬ (j < 0 ∨ c.slots.size ≤ j.toNatClampNeg) := by
  have := AI.sz q
  rw [this]
  rintro (r | r)
  · exact hj r
  · omega
theorem AJ.lt {a : Addr} {vs : List Int64} (F : AJ Z h a vs) : a < h.size := by obtain ⟨c, q, -⟩ := F; exact q.lt
theorem AJ.ext {a : Addr} {vs : List Int64} (F : AJ Z h a vs) (E : Ext h h') : AJ Z h' a vs := by obtain ⟨c, q, r⟩ := F; exact ⟨c, q.ext E, r⟩
theorem AJ.other {a b : Addr} {vs : List Int64} {sl : Nat} {v : Value} (F : AJ Z h a vs) (W : Wr h h' b sl v) (q : a ≠ b) : AJ Z h' a vs := by obtain ⟨c, A, r⟩ := F; exact ⟨c, A.other W q, r⟩
theorem AJ.keep {a : Addr} {vs : List Int64} {ws : List Addr} (F : AJ Z h a vs) (K : Keep h h' ws) (q : a ∉ ws) : AJ Z h' a vs := by obtain ⟨c, A, r⟩ := F; exact ⟨c, ⟨K.2.1 a c A.1 q, A.2⟩, r⟩
theorem AJ.new {a : Addr} {k : ClassId} {z : Int32} (A : Arr Z h a (newA k .long z) .long) : AJ Z h a (List.replicate z.toNatClampNeg 0) := by
  refine ⟨_, A, ?_, ?_⟩
  · simp [newA, defaultValue]
  · have := z.toInt_lt; rw [List.length_replicate]; show z.toInt.toNat < _; omega
theorem AJ.wr {a : Addr} {vs : List Int64} {j : Nat} {x : Int64} (F : AJ Z h a vs) (W : Wr h h' a j (Value.long x)) : AJ Z h' a (vs.set j x) := by
  obtain ⟨c, A, q, r⟩ := F
  refine ⟨_, A.same W, ?_, by simpa using r⟩
  simp [Cell.setSlot, q, List.map_set]
theorem AJ.len {a : Addr} {vs : List Int64} (F : AJ Z h a vs) : vs.length < 2147483648 := by obtain ⟨c, q, r, t⟩ := F; exact t
theorem AJ.sz {vs : List Int64} {c : Cell} (q : c.slots.toList = vs.map Value.long) : c.slots.size = vs.length := by
  have := congrArg List.length q; simpa using this
theorem AJ.at {vs : List Int64} {c : Cell} {j : Nat} {x : Int64} (q : c.slots.toList = vs.map Value.long) (hv : vs[j]? = some x) : c.slots[j]? = some (Value.long x) := by
  rw [← Array.getElem?_toList, q]; simp [hv]
theorem AJ.inb {vs : List Int64} {c : Cell} {j : Int32} (q : c.slots.toList = vs.map Value.long) (hj : ¬ j < 0) (hl : j.toNatClampNeg < vs.length) : ¬ (j < 0 ∨ c.slots.size ≤ j.toNatClampNeg) := by
  have := AJ.sz q
  rw [this]
  rintro (r | r)
  · exact hj r
  · omega
theorem w_iaload (X : Stand p l e R s m args below meth c T locs cells slots) (hx : p.tables.exec = Jvm.exec) (hZ : Z.Warmed39 s.vm) {a : Addr} {vs : List Int32} {j : Int32} {v : Int32} (eT : T.heap = h) (F : AI Z h a .int vs) (hj : ¬ j < 0) (hv : vs[j.toNatClampNeg]? = some v) (hd : decode c.code pc = .ok (.iaload, 1)) (hp : pc + 1 = pc')
    (kk : Go p e below s cm sm Q T (mkF m pc' Ls (Value.int v :: St))) : Go p e below s cm sm Q T (mkF m pc Ls (.int j :: .ref a :: St)) := by
  subst hp
  obtain ⟨cl, A, q, r⟩ := F
  exact Go.st (fun t k => X.iaload hx (j := j) (v := Value.int v) (by rw [eT]; exact A.1) (State.isArrayOf_alike hZ.alike A.2.1) A.2.2 (AI.inb q hj (List.getElem?_eq_some_iff.mp hv).1) (AI.at q hv) (g := mkF m pc Ls (.int j :: .ref a :: St)) rfl rfl hd t k) kk
theorem w_baload (X : Stand p l e R s m args below meth c T locs cells slots) (hx : p.tables.exec = Jvm.exec) (hZ : Z.Warmed39 s.vm) {a : Addr} {vs : List Int32} {j : Int32} {v : Int32} (eT : T.heap = h) (F : AI Z h a .byte vs) (hj : ¬ j < 0) (hv : vs[j.toNatClampNeg]? = some v) (hd : decode c.code pc = .ok (.baload, 1)) (hp : pc + 1 = pc')
    (kk : Go p e below s cm sm Q T (mkF m pc' Ls (Value.int v :: St))) : Go p e below s cm sm Q T (mkF m pc Ls (.int j :: .ref a :: St)) := by
  subst hp
  obtain ⟨cl, A, q, r⟩ := F
  exact Go.st (fun t k => X.baloadBytes hx (j := j) (v := Value.int v) (by rw [eT]; exact A.1) (State.isArrayOf_alike hZ.alike A.2.1) A.2.2 (AI.inb q hj (List.getElem?_eq_some_iff.mp hv).1) (AI.at q hv) (g := mkF m pc Ls (.int j :: .ref a :: St)) rfl rfl hd t k) kk
theorem w_laload (X : Stand p l e R s m args below meth c T locs cells slots) (hx : p.tables.exec = Jvm.exec) (hZ : Z.Warmed39 s.vm) {a : Addr} {vs : List Int64} {j : Int32} {v : Int64} (eT : T.heap = h) (F : AJ Z h a vs) (hj : ¬ j < 0) (hv : vs[j.toNatClampNeg]? = some v) (hd : decode c.code pc = .ok (.laload, 1)) (hp : pc + 1 = pc')
    (kk : Go p e below s cm sm Q T (mkF m pc' Ls (Value.long v :: St))) : Go p e below s cm sm Q T (mkF m pc Ls (.int j :: .ref a :: St)) := by
  subst hp
  obtain ⟨cl, A, q, r⟩ := F
  exact Go.st (fun t k => X.laload hx (j := j) (v := Value.long v) (by rw [eT]; exact A.1) (State.isArrayOf_alike hZ.alike A.2.1) A.2.2 (AJ.inb q hj (List.getElem?_eq_some_iff.mp hv).1) (AJ.at q hv) (g := mkF m pc Ls (.int j :: .ref a :: St)) rfl rfl hd t k) kk
theorem w_iastore (X : Stand p l e R s m args below meth c T locs cells slots) (hx : p.tables.exec = Jvm.exec) (hZ : Z.Warmed39 s.vm) {a : Addr} {vs : List Int32} {j : Int32} {x : Int32} (eT : T.heap = h) (F : AI Z h a .int vs) (hj : ¬ j < 0) (hl : j.toNatClampNeg < vs.length) (hd : decode c.code pc = .ok (.iastore, 1)) (hp : pc + 1 = pc')
    (kk : ∀ (T' : State) (h' : Heap), Stand p l e R s m args below meth c T' (locs ++ [⟨a, j.toNatClampNeg⟩]) cells slots → T'.heap = h' → Wr h h' a j.toNatClampNeg (Value.int x) → AI Z h' a .int (vs.set j.toNatClampNeg x) → Go p e below s cm sm Q T' (mkF m pc' Ls St)) : Go p e below s cm sm Q T (mkF m pc Ls (Value.int x :: .int j :: .ref a :: St)) := by
  subst hp
  obtain ⟨cl, A, q, r⟩ := F
  obtain ⟨T1, h1, X1, e1, W1, st⟩ := RoadKit.stI X hx hZ eT A (j := j) (x := x) (AI.inb q hj hl) (g := mkF m pc Ls (Value.int x :: .int j :: .ref a :: St)) rfl rfl hd
  exact Go.st st (kk _ _ X1 e1 W1 (AI.wr ⟨cl, A, q, r⟩ W1))
theorem w_bastore (X : Stand p l e R s m args below meth c T locs cells slots) (hx : p.tables.exec = Jvm.exec) (hZ : Z.Warmed39 s.vm) {a : Addr} {vs : List Int32} {j : Int32} {x : Int32} (eT : T.heap = h) (F : AI Z h a .byte vs) (hj : ¬ j < 0) (hl : j.toNatClampNeg < vs.length) (hd : decode c.code pc = .ok (.bastore, 1)) (hp : pc + 1 = pc')
    (kk : ∀ (T' : State) (h' : Heap), Stand p l e R s m args below meth c T' (locs ++ [⟨a, j.toNatClampNeg⟩]) cells slots → T'.heap = h' → Wr h h' a j.toNatClampNeg (Value.int (nar .byte x)) → AI Z h' a .byte (vs.set j.toNatClampNeg (nar .byte x)) → Go p e below s cm sm Q T' (mkF m pc' Ls St)) : Go p e below s cm sm Q T (mkF m pc Ls (Value.int x :: .int j :: .ref a :: St)) := by
  subst hp
  obtain ⟨cl, A, q, r⟩ := F
  obtain ⟨T1, h1, X1, e1, W1, st⟩ := RoadKit.stB X hx hZ eT A (j := j) (x := x) (AI.inb q hj hl) (g := mkF m pc Ls (Value.int x :: .int j :: .ref a :: St)) rfl rfl hd
  exact Go.st st (kk _ _ X1 e1 W1 (AI.wr ⟨cl, A, q, r⟩ W1))
theorem w_lastore (X : Stand p l e R s m args below meth c T locs cells slots) (hx : p.tables.exec = Jvm.exec) (hZ : Z.Warmed39 s.vm) {a : Addr} {vs : List Int64} {j : Int32} {x : Int64} (eT : T.heap = h) (F : AJ Z h a vs) (hj : ¬ j < 0) (hl : j.toNatClampNeg < vs.length) (hd : decode c.code pc = .ok (.lastore, 1)) (hp : pc + 1 = pc')
    (kk : ∀ (T' : State) (h' : Heap), Stand p l e R s m args below meth c T' (locs ++ [⟨a, j.toNatClampNeg⟩]) cells slots → T'.heap = h' → Wr h h' a j.toNatClampNeg (Value.long x) → AJ Z h' a (vs.set j.toNatClampNeg x) → Go p e below s cm sm Q T' (mkF m pc' Ls St)) : Go p e below s cm sm Q T (mkF m pc Ls (Value.long x :: .int j :: .ref a :: St)) := by
  subst hp
  obtain ⟨cl, A, q, r⟩ := F
  obtain ⟨T1, h1, X1, e1, W1, st⟩ := RoadKit.stJ X hx hZ eT A (j := j) (x := x) (AJ.inb q hj hl) (g := mkF m pc Ls (Value.long x :: .int j :: .ref a :: St)) rfl rfl hd
  exact Go.st st (kk _ _ X1 e1 W1 (AJ.wr ⟨cl, A, q, r⟩ W1))
theorem w_alenI (X : Stand p l e R s m args below meth c T locs cells slots) (hx : p.tables.exec = Jvm.exec) (hZ : Z.Warmed39 s.vm) {a : Addr} {ty : FieldType} {vs : List Int32} {n : Int32} (eT : T.heap = h) (F : AI Z h a ty vs) (hn : vs.length.toInt32 = n) (hd : decode c.code pc = .ok (.arraylength, 1)) (hp : pc + 1 = pc')
    (kk : Go p e below s cm sm Q T (mkF m pc' Ls (.int n :: St))) : Go p e below s cm sm Q T (mkF m pc Ls (.ref a :: St)) := by
  subst hp hn
  obtain ⟨cl, A, q, r⟩ := F
  have hs := AI.sz q
  exact Go.st (fun t k => X.arraylength hx (by rw [eT]; exact A.1) (State.isArrayOf_alike hZ.alike A.2.1) (g := mkF m pc Ls (.ref a :: St)) rfl rfl hd t (by rw [hs]; exact k)) kk
theorem w_alenJ (X : Stand p l e R s m args below meth c T locs cells slots) (hx : p.tables.exec = Jvm.exec) (hZ : Z.Warmed39 s.vm) {a : Addr} {vs : List Int64} {n : Int32} (eT : T.heap = h) (F : AJ Z h a vs) (hn : vs.length.toInt32 = n) (hd : decode c.code pc = .ok (.arraylength, 1)) (hp : pc + 1 = pc')
    (kk : Go p e below s cm sm Q T (mkF m pc' Ls (.int n :: St))) : Go p e below s cm sm Q T (mkF m pc Ls (.ref a :: St)) := by
  subst hp hn
  obtain ⟨cl, A, q, r⟩ := F
  have hs := AJ.sz q
  exact Go.st (fun t k => X.arraylength hx (by rw [eT]; exact A.1) (State.isArrayOf_alike hZ.alike A.2.1) (g := mkF m pc Ls (.ref a :: St)) rfl rfl hd t (by rw [hs]; exact k)) kk
theorem w_newI (X : Stand p l e R s m args below meth c T locs cells slots) (hx : p.tables.exec = Jvm.exec) (hZ : Z.Warmed39 s.vm) {n : Int32} {cap : Nat} (eT : T.heap = h) (w : (Jvm.Cond.arrayClass .int).before a0 Z = true) (hn : ¬ n < 0) (hcap : n.toNatClampNeg ≤ cap) (hb : cap * 8 ≤ 536870912) (hc : cells + 1 ≤ R.cells) (hl : slots + cap ≤ R.slots) (hd : decode c.code pc = .ok (.newarray .int, 2)) (hp : pc + 2 = pc')
    (kk : ∀ (T' : State) (h' : Heap) (b : Addr), Stand p l e R s m args below meth c T' locs (cells + 1) (slots + cap) → T'.heap = h' → Ext h h' → b = h.size → AI Z h' b .int (List.replicate n.toNatClampNeg 0) → Go p e below s cm sm Q T' (mkF m pc' Ls (.ref b :: St))) : Go p e below s cm sm Q T (mkF m pc Ls (.int n :: St)) := by
  subst hp
  obtain ⟨T1, h1, k1, X1, e1, E1, A1, st⟩ := newP X hx hZ (aty := .int) w eT (g := mkF m pc Ls (.int n :: St)) rfl hd rfl hn (cap := cap) hcap hb hc hl
  exact Go.st st (kk _ _ _ X1 e1 E1 rfl (AI.new A1 rfl))
theorem w_newB (X : Stand p l e R s m args below meth c T locs cells slots) (hx : p.tables.exec = Jvm.exec) (hZ : Z.Warmed39 s.vm) {n : Int32} {cap : Nat} (eT : T.heap = h) (w : (Jvm.Cond.arrayClass .byte).before a0 Z = true) (hn : ¬ n < 0) (hcap : n.toNatClampNeg ≤ cap) (hb : cap * 8 ≤ 536870912) (hc : cells + 1 ≤ R.cells) (hl : slots + cap ≤ R.slots) (hd : decode c.code pc = .ok (.newarray .byte, 2)) (hp : pc + 2 = pc')
    (kk : ∀ (T' : State) (h' : Heap) (b : Addr), Stand p l e R s m args below meth c T' locs (cells + 1) (slots + cap) → T'.heap = h' → Ext h h' → b = h.size → AI Z h' b .byte (List.replicate n.toNatClampNeg 0) → Go p e below s cm sm Q T' (mkF m pc' Ls (.ref b :: St))) : Go p e below s cm sm Q T (mkF m pc Ls (.int n :: St)) := by
  subst hp
  obtain ⟨T1, h1, k1, X1, e1, E1, A1, st⟩ := newP X hx hZ (aty := .byte) w eT (g := mkF m pc Ls (.int n :: St)) rfl hd rfl hn (cap := cap) hcap hb hc hl
  exact Go.st st (kk _ _ _ X1 e1 E1 rfl (AI.new A1 rfl))
theorem w_newJ (X : Stand p l e R s m args below meth c T locs cells slots) (hx : p.tables.exec = Jvm.exec) (hZ : Z.Warmed39 s.vm) {n : Int32} {cap : Nat} (eT : T.heap = h) (w : (Jvm.Cond.arrayClass .long).before a0 Z = true) (hn : ¬ n < 0) (hcap : n.toNatClampNeg ≤ cap) (hb : cap * 8 ≤ 536870912) (hc : cells + 1 ≤ R.cells) (hl : slots + cap ≤ R.slots) (hd : decode c.code pc = .ok (.newarray .long, 2)) (hp : pc + 2 = pc')
    (kk : ∀ (T' : State) (h' : Heap) (b : Addr), Stand p l e R s m args below meth c T' locs (cells + 1) (slots + cap) → T'.heap = h' → Ext h h' → b = h.size → AJ Z h' b (List.replicate n.toNatClampNeg 0) → Go p e below s cm sm Q T' (mkF m pc' Ls (.ref b :: St))) : Go p e below s cm sm Q T (mkF m pc Ls (.int n :: St)) := by
  subst hp
  obtain ⟨T1, h1, k1, X1, e1, E1, A1, st⟩ := newP X hx hZ (aty := .long) w eT (g := mkF m pc Ls (.int n :: St)) rfl hd rfl hn (cap := cap) hcap hb hc hl
  exact Go.st st (kk _ _ _ X1 e1 E1 rfl (AJ.new A1))
theorem w_callP (X : Stand p l e R s m args below meth c T locs cells slots) (hx : p.tables.exec = Jvm.exec) (hZ : Z.Warmed39 s.vm) {own : String} {index : Nat} {y : MethodName} {bytes : ByteArray} {maxL : Nat} {ret : Option FieldType} {rm : Room} {W : Nat} {argsL rest : List Value} {Qc : Option Value → Heap → List Loc → Prop} {a : Addr} (hown : s.vm.findClass own = some m.cls) (eT : T.heap = h) (E : Exa Z h a y.cls) (C : Con l Z y bytes maxL ret rm (.ref a :: argsL).toArray h Qc) (w1 : (Jvm.Cond.methodLink own index y).before a0 Z = true) (w2 : (Jvm.Cond.instanceMethod y).before a0 Z = true) (ws : (Jvm.Cond.selects y.cls y y).before a0 Z = true) (wp : (Jvm.Cond.privateMethod y).before a0 Z = true) (w3 : (Jvm.Cond.initialized y.cls).before a0 Z = true) (w4 : (Jvm.Cond.code y bytes maxL ret).before a0 Z = true) (hy : y.cls ≠ "java/lang/invoke/MethodHandle" ∧ y.cls ≠ "java/lang/invoke/VarHandle")
    (hf : rm.frames + 1 ≤ R.frames) (hl : W + (maxL + 11) + rm.locals ≤ R.locals) (hc : cells + rm.cells ≤ R.cells) (hs : slots + rm.slots ≤ R.slots) (hsz : Ls.size = c.maxLocals) (hlen : ∀ sig, parseMethodDescriptor y.desc = some sig → argsL.length = sig.parameters.length) (hW : (rest.map fun v => v.category).sum ≤ W) (hst : St = argsL.reverse ++ .ref a :: rest) (hd : decode c.code pc = .ok (.invokevirtual index, 3)) (hp : pc + 3 = pc')
    (kk : ∀ (T' : State) (L : List Loc) (v : Option Value), Stand p l e R s m args below meth c T' (locs ++ L) (cells + rm.cells) (slots + rm.slots) → Qc v T'.heap L → Go p e below s cm sm Q T' (mkF m pc' Ls (v.toList ++ rest))) : Go p e below s cm sm Q T (mkF m pc Ls St) := by
  subst hp hst
  obtain ⟨cq, q1, q2⟩ := E.cell
  obtain ⟨v, _, ⟨T1, L1, k1, n1⟩, -, X1, ⟨Lc, hQ, l1, y1, z1⟩, st⟩ := X.privateBack hx (y := y) hown (mvT hZ w1) (mvT hZ w2) (mvT hZ ws) (Cond.privateMethod_at (mvP hZ wp (args := #[]))) (mvT hZ w4) hy (C.back (W := W) hZ w4 w3 hf hl) (g := mkF m pc Ls (argsL.reverse ++ .ref a :: rest)) rfl hsz (Steps.refl _) (a := a) (by rw [eT]; exact q1) q2 (argsL := argsL) (rest := rest) hlen rfl (by show 2 * 0 + _ ≤ _; rw [Nat.mul_zero, Nat.zero_add]; exact hW) hd (fun _ _ => ⟨rfl, eT, hc, hs⟩)
  dsimp only [Pt.U, Pt.locs, Pt.cells, Pt.slots] at X1 l1 y1 z1 st hQ
  subst l1 y1 z1
  exact Go.st (fun t q => st.trans q) (kk _ _ _ X1 hQ)
theorem w_ifnullNo (X : Stand p l e R s m args below meth c T locs cells slots) (hx : p.tables.exec = Jvm.exec) {o : Int} {b : Addr} (hd : decode c.code pc = .ok (.ifnull o, 3)) (hp : pc + 3 = pc') (kk : Go p e below s cm sm Q T (mkF m pc' Ls St)) : Go p e below s cm sm Q T (mkF m pc Ls (.ref b :: St)) := by
  subst hp
  exact Go.st (fun t q => XS.ifnullNo (g := mkF m pc Ls (.ref b :: St)) X.here hx rfl hd rfl q) kk
theorem own_len {n k : Nat} (h : n < 2147483648) (hk : k < 2147483648) (hc : ¬ n.toInt32 < k.toInt32) : k ≤ n := by
  rw [Int32.lt_iff_toInt_lt, len_toInt h, len_toInt hk] at hc
  omega
theorem own_len' {n k : Nat} (h : n < 2147483648) (hk : k < 2147483648) (hc : n.toInt32 < k.toInt32) : n < k := by
  rw [Int32.lt_iff_toInt_lt, len_toInt h, len_toInt hk] at hc
  omega
theorem own_getD {α : Type} {vs : List α} {j : Nat} {d : α} (h : j < vs.length) : vs[j]? = some (vs.getD j d) := by simp [h]
theorem own_nar0 : nar .boolean 0 = 0 := by decide
theorem own_nar1 : nar .boolean 1 = 1 := by decide
theorem w_up {c' s' : Nat} (X : Stand p l e R s m args below meth c T locs cells slots) (h1 : cells ≤ c') (h2 : slots ≤ s') : Stand p l e R s m args below meth c T locs c' s' :=
  ⟨X.admits, X.cas, X.clock, X.frames, X.room, X.hears, X.method, X.code, X.here, X.tail, X.warmed, X.limits, X.bytes, X.same.mono h1 h2⟩
end OwnKit
theorem pd_0 : parseMethodDescriptor "()Z" = some ⟨[], some .boolean⟩ := by decide +kernel
theorem pd_1 : parseMethodDescriptor "()I" = some ⟨[], some .int⟩ := by decide +kernel
theorem pd_2 : parseMethodDescriptor "([BII)V" = some ⟨[(.array .byte), .int, .int], none⟩ := by decide +kernel
theorem pd_3 : parseMethodDescriptor "([B)V" = some ⟨[(.array .byte)], none⟩ := by decide +kernel
theorem pd_4 : parseMethodDescriptor "()Lcom/example/inwrap/inwrap/DerReader;" = some ⟨[], some (.object "com/example/inwrap/inwrap/DerReader")⟩ := by decide +kernel
theorem own_m (x m : Int32) {k : Nat} (hk : k < 32) (hm : m.toBitVec.toNat = 2 ^ k - 1) : 0 ≤ (x &&& m).toInt ∧ (x &&& m).toInt < 2 ^ k := by
  rw [Jvm.Kit.i32_mask x m hk hm]
  exact ⟨Int.emod_nonneg _ (by have : (0 : Int) < 2 ^ k := Int.pow_pos (by decide); omega), Int.emod_lt_of_pos _ (Int.pow_pos (by decide))⟩
theorem own_one : (1 : Int32).toInt = 1 := by decide
theorem own_zero : (0 : Int32).toInt = 0 := by decide
theorem own_toInt {x y : Int32} (h : x.toInt = y.toInt) : x = y := Int32.toInt_inj.mp h
theorem own_and1 (x : Int32) : x &&& 1 = 0 ∨ x &&& 1 = 1 := and_one x
theorem own_and3 (x : Int32) : x &&& 3 = 0 ∨ x &&& 3 = 1 ∨ x &&& 3 = 2 ∨ x &&& 3 = 3 := by
  obtain ⟨h1, h2⟩ := own_m x 3 (k := 2) (by decide) (by decide)
  have e1 : (1 : Int32).toInt = 1 := by decide
  have e2 : (2 : Int32).toInt = 2 := by decide
  have e3 : (3 : Int32).toInt = 3 := by decide
  have e0 : (0 : Int32).toInt = 0 := by decide
  have : (x &&& 3).toInt = 0 ∨ (x &&& 3).toInt = 1 ∨ (x &&& 3).toInt = 2 ∨ (x &&& 3).toInt = 3 := by omega
  rcases this with h | h | h | h
  · exact Or.inl (own_toInt (h.trans e0.symm))
  · exact Or.inr (Or.inl (own_toInt (h.trans e1.symm)))
  · exact Or.inr (Or.inr (Or.inl (own_toInt (h.trans e2.symm))))
  · exact Or.inr (Or.inr (Or.inr (own_toInt (h.trans e3.symm))))
theorem own_b01 {c : Prop} [Decidable c] {v : Int32} (h : v = if c then 0 else 1) : v = 0 ∨ v = 1 := by subst h; split <;> simp
theorem own_b10 {c : Prop} [Decidable c] {v : Int32} (h : v = if c then 1 else 0) : v = 0 ∨ v = 1 := by subst h; split <;> simp
theorem d2_0 : decode prog_5_method_2_code 0 = .ok (.aload_n 0, 1) := by decide +kernel
theorem d2_1 : decode prog_5_method_2_code 1 = .ok (.invokespecial 7, 3) := by decide +kernel
theorem d2_4 : decode prog_5_method_2_code 4 = .ok (.aload_n 0, 1) := by decide +kernel
theorem d2_5 : decode prog_5_method_2_code 5 = .ok (.aload_n 1, 1) := by decide +kernel
theorem d2_6 : decode prog_5_method_2_code 6 = .ok (.putfield 12, 3) := by decide +kernel
theorem d2_9 : decode prog_5_method_2_code 9 = .ok (.aload_n 0, 1) := by decide +kernel
theorem d2_10 : decode prog_5_method_2_code 10 = .ok (.iload_n 2, 1) := by decide +kernel
theorem d2_11 : decode prog_5_method_2_code 11 = .ok (.putfield 16, 3) := by decide +kernel
theorem d2_14 : decode prog_5_method_2_code 14 = .ok (.aload_n 0, 1) := by decide +kernel
theorem d2_15 : decode prog_5_method_2_code 15 = .ok (.iload_n 3, 1) := by decide +kernel
theorem d2_16 : decode prog_5_method_2_code 16 = .ok (.putfield 20, 3) := by decide +kernel
theorem d2_19 : decode prog_5_method_2_code 19 = .ok (.return_, 1) := by decide +kernel
theorem ef_2 (m : MethodId) (ob : Addr) (x1 : Addr) (x2 : Int32) (x3 : Int32) : entryFrame m #[(.ref ob), (.ref x1), (.int x2), (.int x3)] 4 = mkF m 0 #[.val (.ref ob), .val (.ref x1), .val (.int x2), .val (.int x3)] [] := by first | (simp [entryFrame, mkF, argsToLocals, Value.category]; done) | rfl
set_option maxRecDepth 65536 in
set_option maxHeartbeats 40000000 in
theorem rm2 (l : Launch) (Z : State) (a0 : Array Value) (hw : ∀ d ∈ tables_1, d.before a0 Z = true) (ob : Addr) (x1 : Addr) (x2 : Int32) (x3 : Int32) (h0 : Heap) (n0 : Nat) (Z0 : n0 ≤ h0.size) (E_ob : Exa Z h0 ob "com/example/inwrap/inwrap/DerReader") (g_ob : n0 ≤ ob) (F_input : Fld Z h0 ob "com/example/inwrap/inwrap/DerReader" "input" "[B" .null) (F_position : Fld Z h0 ob "com/example/inwrap/inwrap/DerReader" "position" "I" (.int (0 : Int32))) (F_end : Fld Z h0 ob "com/example/inwrap/inwrap/DerReader" "end" "I" (.int (0 : Int32))) :
    Con l Z (⟨"com/example/inwrap/inwrap/DerReader", "<init>", "([BII)V"⟩ : MethodName) prog_5_method_2_code 4 none ({ frames := 1, cells := 0, slots := 0, locals := 16 } : Room) #[(.ref ob), (.ref x1), (.int x2), (.int x3)] h0 (fun v h L => v = none ∧ Fr n0 L ∧ Keep h0 h [ob] ∧ Fld Z h ob "com/example/inwrap/inwrap/DerReader" "input" "[B" (.ref x1) ∧ Fld Z h ob "com/example/inwrap/inwrap/DerReader" "position" "I" (.int x2) ∧ Fld Z h ob "com/example/inwrap/inwrap/DerReader" "end" "I" (.int x3)) := by
  refine Con.of (plainFor_of_name (by first | (simp [plainName, overriddenIn]; done) | decide +kernel)) ?_
  intro p e s m below meth c T X hx hZ hby hml hown hnm hret hlk e0
  rw [ef_2]
  have N0 := Fr.nil n0
  have KP0 := Keep.refl h0 [ob]
  show Go p e below s 0 0 (fun v h L => v = none ∧ Fr n0 L ∧ Keep h0 h [ob] ∧ Fld Z h ob "com/example/inwrap/inwrap/DerReader" "input" "[B" (.ref x1) ∧ Fld Z h ob "com/example/inwrap/inwrap/DerReader" "position" "I" (.int x2) ∧ Fld Z h ob "com/example/inwrap/inwrap/DerReader" "end" "I" (.int x3)) T (mkF m 0 #[.val (.ref ob), .val (.ref x1), .val (.int x2), .val (.int x3)] [])
  refine w_aloadN X hx (hb hby d2_0) (pc' := 1) rfl rfl rfl ?_
  refine w_initO X hx hZ hown e0 (hw _ (List.mem_of_getElem? (i := 10) rfl)) (hw _ (List.mem_of_getElem? (i := 11) rfl)) (hw _ (List.mem_of_getElem? (i := 12) rfl)) (by rw [hml]; rfl) (hb hby d2_1) (by decide) (W := 0) (by decide) (by decide) (pc' := 4) rfl (fun T1 X1 e1 => ?_)
  refine w_aloadN X1 hx (hb hby d2_4) (pc' := 5) rfl rfl rfl ?_
  refine w_aloadN X1 hx (hb hby d2_5) (pc' := 6) rfl rfl rfl ?_
  refine w_putF X1 hx hZ hown e1 F_input E_ob (hw _ (List.mem_of_getElem? (i := 13) rfl)) (Or.inr ⟨(hw _ (List.mem_of_getElem? (i := 14) rfl)), rfl, hnm⟩) (hw _ (List.mem_of_getElem? (i := 1) rfl)) (ty := (.array .byte)) (by decide) rfl rfl (hb hby d2_6) (pc' := 9) rfl (fun T2 h2 X2 e2 W2 => ?_)
  have F2 := F_input.same W2
  have KP2 := KP0.wr W2 (Or.inl (by simp))
  have N2 := Fr.snoc X2 N0 g_ob
  have zn2 : n0 ≤ h2.size := by rw [W2.size]; exact Z0
  refine w_aloadN X2 hx (hb hby d2_9) (pc' := 10) rfl rfl rfl ?_
  refine w_iloadN X2 hx (hb hby d2_10) (pc' := 11) rfl rfl ?_
  have f3 := F_position.other W2 (Or.inr (slot_ne (Or.inl (hw _ (List.mem_of_getElem? (i := 16) rfl))) (Or.inr (hw _ (List.mem_of_getElem? (i := 14) rfl))) (by decide) (t := .int) (t' := (.array .byte)) (by decide) (by decide)))
  have f4 := E_ob.wr W2
  refine w_putF X2 hx hZ hown e2 f3 f4 (hw _ (List.mem_of_getElem? (i := 15) rfl)) (Or.inl (hw _ (List.mem_of_getElem? (i := 16) rfl))) (hw _ (List.mem_of_getElem? (i := 1) rfl)) (ty := .int) (by decide) rfl rfl (hb hby d2_11) (pc' := 14) rfl (fun T5 h5 X5 e5 W5 => ?_)
  have F5 := f3.same W5
  have KP5 := KP2.wr W5 (Or.inl (by simp))
  have N5 := Fr.snoc X5 N2 g_ob
  have zn5 : n0 ≤ h5.size := by rw [W5.size]; exact zn2
  refine w_aloadN X5 hx (hb hby d2_14) (pc' := 15) rfl rfl rfl ?_
  refine w_iloadN X5 hx (hb hby d2_15) (pc' := 16) rfl rfl ?_
  have f6 := F_end.other W2 (Or.inr (slot_ne (Or.inr (hw _ (List.mem_of_getElem? (i := 18) rfl))) (Or.inr (hw _ (List.mem_of_getElem? (i := 14) rfl))) (by decide) (t := .int) (t' := (.array .byte)) (by decide) (by decide)))
  have f7 := f6.other W5 (Or.inr (slot_ne (Or.inr (hw _ (List.mem_of_getElem? (i := 18) rfl))) (Or.inl (hw _ (List.mem_of_getElem? (i := 16) rfl))) (by decide) (t := .int) (t' := .int) (by decide) (by decide)))
  have f8 := f4.wr W5
  refine w_putF X5 hx hZ hown e5 f7 f8 (hw _ (List.mem_of_getElem? (i := 17) rfl)) (Or.inr ⟨(hw _ (List.mem_of_getElem? (i := 18) rfl)), rfl, hnm⟩) (hw _ (List.mem_of_getElem? (i := 1) rfl)) (ty := .int) (by decide) rfl rfl (hb hby d2_16) (pc' := 19) rfl (fun T9 h9 X9 e9 W9 => ?_)
  have F9 := f7.same W9
  have KP9 := KP5.wr W9 (Or.inl (by simp))
  have N9 := Fr.snoc X9 N5 g_ob
  have zn9 : n0 ≤ h9.size := by rw [W9.size]; exact zn5
  have f10 := F2.other W5 (Or.inr (slot_ne (Or.inr (hw _ (List.mem_of_getElem? (i := 14) rfl))) (Or.inl (hw _ (List.mem_of_getElem? (i := 16) rfl))) (by decide) (t := (.array .byte)) (t' := .int) (by decide) (by decide)))
  have f11 := f10.other W9 (Or.inr (slot_ne (Or.inr (hw _ (List.mem_of_getElem? (i := 14) rfl))) (Or.inr (hw _ (List.mem_of_getElem? (i := 18) rfl))) (by decide) (t := (.array .byte)) (t' := .int) (by decide) (by decide)))
  have f12 := F5.other W9 (Or.inr (slot_ne (Or.inl (hw _ (List.mem_of_getElem? (i := 16) rfl))) (Or.inr (hw _ (List.mem_of_getElem? (i := 18) rfl))) (by decide) (t := .int) (t' := .int) (by decide) (by decide)))
  exact w_retV X9 hx hret hlk (hb hby d2_19) (by decide) (by decide) (by rw [e9]; exact ⟨rfl, N9, KP9, f11, f12, F9⟩)
theorem d4_0 : decode prog_5_method_3_code 0 = .ok (.aload_n 0, 1) := by decide +kernel
theorem d4_1 : decode prog_5_method_3_code 1 = .ok (.getfield 16, 3) := by decide +kernel
theorem d4_4 : decode prog_5_method_3_code 4 = .ok (.aload_n 0, 1) := by decide +kernel
theorem d4_5 : decode prog_5_method_3_code 5 = .ok (.getfield 20, 3) := by decide +kernel
theorem d4_8 : decode prog_5_method_3_code 8 = .ok (.if_icmp .ne 7, 3) := by decide +kernel
theorem d4_11 : decode prog_5_method_3_code 11 = .ok (.iconst 1, 1) := by decide +kernel
theorem d4_12 : decode prog_5_method_3_code 12 = .ok (.goto 4, 3) := by decide +kernel
theorem d4_15 : decode prog_5_method_3_code 15 = .ok (.iconst 0, 1) := by decide +kernel
theorem d4_16 : decode prog_5_method_3_code 16 = .ok (.ireturn, 1) := by decide +kernel
def K4_0 (f_position : Int32) (f_end : Int32)  : Int32 :=
  (if f_position = f_end then (1 : Int32)
  else (0 : Int32))
set_option maxRecDepth 65536 in
set_option maxHeartbeats 4000000 in
theorem bk4_0 {p : Program} {l : Launch} {e : Env} {s : State} {m : MethodId} {args : Array Value} {below : List Frame} {meth : Method} {c : Code} {T : State} {locs : List Loc} {Z : State} {a0 : Array Value} {h0 : Heap} {n0 : Nat} {ob : Addr} {f_position : Int32} {f_end : Int32} (X : Stand p l e ({ frames := 0, cells := 0, slots := 0, locals := 0 } : Room) s m args below meth c T locs 0 0) (hx : p.tables.exec = Jvm.exec) (hZ : Z.Warmed39 s.vm) (hw : ∀ d ∈ tables_1, d.before a0 Z = true) (hby : c.code = prog_5_method_3_code) (hml : c.maxLocals = 1) (hown : s.vm.findClass "com/example/inwrap/inwrap/DerReader" = some m.cls) (hret : meth.sig.returnType = (some .boolean)) (hlk : meth.locks = false) (e0 : T.heap = h0) (N0 : Fr n0 locs) (F_position : Fld Z h0 ob "com/example/inwrap/inwrap/DerReader" "position" "I" (.int f_position)) (F_end : Fld Z h0 ob "com/example/inwrap/inwrap/DerReader" "end" "I" (.int f_end)) :
    Go p e below s 0 0 (QP (some (.int (K4_0 f_position f_end))) h0 n0) T (mkF m 0 #[.val (.ref ob)] []) := by
  rw [K4_0]
  refine w_aloadN X hx (hb hby d4_0) (pc' := 1) rfl rfl rfl ?_
  refine w_getF X hx hZ hown e0 F_position (hw _ (List.mem_of_getElem? (i := 15) rfl)) (hb hby d4_1) (pc' := 4) rfl (fun T13 X13 e13 => ?_)
  refine w_aloadN X13 hx (hb hby d4_4) (pc' := 5) rfl rfl rfl ?_
  refine w_getF X13 hx hZ hown e13 F_end (hw _ (List.mem_of_getElem? (i := 17) rfl)) (hb hby d4_5) (pc' := 8) rfl (fun T14 X14 e14 => ?_)
  refine w_icmp_ne X14 hx (hb hby d4_8) (pf := 11) (pt := 15) rfl (by decide) (by decide) (fun hc8 => ?_) (fun hc8 => ?_)
  · rw [if_neg hc8]
    refine w_iconst (v := 0) X14 hx (hb hby d4_15) (pc' := 16) rfl rfl ?_
    exact w_retZ X14 hx hret hlk (hb hby d4_16) (by decide) (by decide) ⟨rfl, N0, e14⟩
  · rw [if_pos hc8]
    refine w_iconst (v := 1) X14 hx (hb hby d4_11) (pc' := 12) rfl rfl ?_
    refine w_goto X14 hx (hb hby d4_12) (pc' := 16) (by decide) (by decide) ?_
    exact w_retZ X14 hx hret hlk (hb hby d4_16) (by decide) (by decide) ⟨rfl, N0, e14⟩
theorem ef_4 (m : MethodId) (ob : Addr) : entryFrame m #[(.ref ob)] 1 = mkF m 0 #[.val (.ref ob)] [] := by first | (simp [entryFrame, mkF, argsToLocals, Value.category]; done) | rfl
theorem rm4 (l : Launch) (Z : State) (a0 : Array Value) (hw : ∀ d ∈ tables_1, d.before a0 Z = true) (ob : Addr) (h0 : Heap) (n0 : Nat) (f_position : Int32) (f_end : Int32) (F_position : Fld Z h0 ob "com/example/inwrap/inwrap/DerReader" "position" "I" (.int f_position)) (F_end : Fld Z h0 ob "com/example/inwrap/inwrap/DerReader" "end" "I" (.int f_end)) :
    Con l Z (⟨"com/example/inwrap/inwrap/DerReader", "atEnd", "()Z"⟩ : MethodName) prog_5_method_3_code 1 (some .boolean) ({ frames := 0, cells := 0, slots := 0, locals := 0 } : Room) #[(.ref ob)] h0 (QP (some (.int (K4_0 f_position f_end))) h0 n0) := by
  refine Con.of (plainFor_of_name (by first | (simp [plainName, overriddenIn]; done) | decide +kernel)) ?_
  intro p e s m below meth c T X hx hZ hby hml hown hnm hret hlk e0
  rw [ef_4]
  exact bk4_0 X hx hZ hw hby hml hown hret hlk e0 (Fr.nil n0) F_position F_end
theorem d6_0 : decode prog_5_method_4_code 0 = .ok (.aload_n 0, 1) := by decide +kernel
theorem d6_1 : decode prog_5_method_4_code 1 = .ok (.invokevirtual 23, 3) := by decide +kernel
theorem d6_4 : decode prog_5_method_4_code 4 = .ok (.ifCond .eq 20, 3) := by decide +kernel
theorem d6_7 : decode prog_5_method_4_code 7 = .ok (.new 27, 3) := by decide +kernel
theorem d6_10 : decode prog_5_method_4_code 10 = .ok (.dup, 1) := by decide +kernel
theorem d6_11 : decode prog_5_method_4_code 11 = .ok (.aload_n 0, 1) := by decide +kernel
theorem d6_12 : decode prog_5_method_4_code 12 = .ok (.getfield 16, 3) := by decide +kernel
theorem d6_20 : decode prog_5_method_4_code 20 = .ok (.invokespecial 33, 3) := by decide +kernel
theorem d6_24 : decode prog_5_method_4_code 24 = .ok (.aload_n 0, 1) := by decide +kernel
theorem d6_25 : decode prog_5_method_4_code 25 = .ok (.getfield 12, 3) := by decide +kernel
theorem d6_28 : decode prog_5_method_4_code 28 = .ok (.aload_n 0, 1) := by decide +kernel
theorem d6_29 : decode prog_5_method_4_code 29 = .ok (.getfield 16, 3) := by decide +kernel
theorem d6_32 : decode prog_5_method_4_code 32 = .ok (.baload, 1) := by decide +kernel
theorem d6_33 : decode prog_5_method_4_code 33 = .ok (.sipush 255, 3) := by decide +kernel
theorem d6_36 : decode prog_5_method_4_code 36 = .ok (.iand, 1) := by decide +kernel
theorem d6_37 : decode prog_5_method_4_code 37 = .ok (.ireturn, 1) := by decide +kernel
def K6_0 (f_position : Int32) (f_end : Int32) (vs : List Int32)  : Int32 :=
  ((vs.getD (f_position).toNatClampNeg 0) &&& (255 : Int32))
set_option maxRecDepth 65536 in
set_option maxHeartbeats 4000000 in
theorem bk6_0 {p : Program} {l : Launch} {e : Env} {s : State} {m : MethodId} {args : Array Value} {below : List Frame} {meth : Method} {c : Code} {T : State} {locs : List Loc} {Z : State} {a0 : Array Value} {h0 : Heap} {n0 : Nat} {ob : Addr} {f_position : Int32} {f_end : Int32} {vs : List Int32} (X : Stand p l e ({ frames := 1, cells := 0, slots := 0, locals := 18 } : Room) s m args below meth c T locs 0 0) (hx : p.tables.exec = Jvm.exec) (hZ : Z.Warmed39 s.vm) (hw : ∀ d ∈ tables_1, d.before a0 Z = true) (hby : c.code = prog_5_method_4_code) (hml : c.maxLocals = 1) (hown : s.vm.findClass "com/example/inwrap/inwrap/DerReader" = some m.cls) (hret : meth.sig.returnType = (some .int)) (hlk : meth.locks = false) (e0 : T.heap = h0) (N0 : Fr n0 locs) {f_input : Addr} (F_input : Fld Z h0 ob "com/example/inwrap/inwrap/DerReader" "input" "[B" (.ref f_input)) (F_position : Fld Z h0 ob "com/example/inwrap/inwrap/DerReader" "position" "I" (.int f_position)) (F_end : Fld Z h0 ob "com/example/inwrap/inwrap/DerReader" "end" "I" (.int f_end)) (V_in : AI Z h0 f_input .byte vs) (E_ob : Exa Z h0 ob "com/example/inwrap/inwrap/DerReader") (hne : ¬ (f_position = f_end)) (hp0 : ¬ f_position < 0) (hp1 : f_position.toNatClampNeg < vs.length) :
    Go p e below s 0 0 (QP (some (.int (K6_0 f_position f_end vs))) h0 n0) T (mkF m 0 #[.val (.ref ob)] []) := by
  rw [K6_0]
  refine w_aloadN X hx (hb hby d6_0) (pc' := 1) rfl rfl rfl ?_
  refine w_callV (argsL := []) (rest := []) (a := ob) X hx hZ hown e0 E_ob (rm4 l Z a0 hw ob h0 n0 f_position f_end  F_position F_end ) (hw _ (List.mem_of_getElem? (i := 35) rfl)) (hw _ (List.mem_of_getElem? (i := 20) rfl)) (hw _ (List.mem_of_getElem? (i := 22) rfl)) (hw _ (List.mem_of_getElem? (i := 21) rfl)) (hw _ (List.mem_of_getElem? (i := 2) rfl)) (hw _ (List.mem_of_getElem? (i := 23) rfl)) (by decide) (by decide) (W := 0) (by decide) (by decide) (by decide) (by rw [hml]; rfl) (lenOf pd_0 rfl) (Nat.le_refl _) rfl (hb hby d6_1) (pc' := 4) rfl (fun T15 L15 v15 X15 hQ15 => ?_)
  obtain ⟨rfl, N15q, e15⟩ := hQ15
  have N15 := Fr.app N0 N15q
  have X15 : Stand p l e ({ frames := 1, cells := 0, slots := 0, locals := 18 } : Room) s m _ below meth c T15 _ 0 0 := X15
  show Go p e below s 0 0 _ T15 (mkF m 4 #[.val (.ref ob)] [(.int (K4_0 f_position f_end ))])
  have hf4 : (K4_0 f_position f_end ) = (0 : Int32) := by rw [K4_0, if_neg hne]
  refine w_if_eq X15 hx (hb hby d6_4) (pf := 7) (pt := 24) rfl (by decide) (by decide) (fun hc4 => ?_) (fun hc => absurd hf4 hc)
  refine w_aloadN X15 hx (hb hby d6_24) (pc' := 25) rfl rfl rfl ?_
  refine w_getF X15 hx hZ hown e15 F_input (hw _ (List.mem_of_getElem? (i := 13) rfl)) (hb hby d6_25) (pc' := 28) rfl (fun T16 X16 e16 => ?_)
  refine w_aloadN X16 hx (hb hby d6_28) (pc' := 29) rfl rfl rfl ?_
  refine w_getF X16 hx hZ hown e16 F_position (hw _ (List.mem_of_getElem? (i := 15) rfl)) (hb hby d6_29) (pc' := 32) rfl (fun T17 X17 e17 => ?_)
  refine w_baload X17 hx hZ e17 V_in (v := (vs.getD (f_position).toNatClampNeg 0)) hp0 (own_getD hp1) (hb hby d6_32) (pc' := 33) rfl ?_
  refine w_sipush (v := 255) X17 hx (hb hby d6_33) (pc' := 36) rfl rfl ?_
  refine w_iand X17 hx (hb hby d6_36) (pc' := 37) rfl ?_
  exact w_retI X17 hx hret hlk (hb hby d6_37) (by decide) (by decide) ⟨rfl, N15, e17⟩
theorem ef_6 (m : MethodId) (ob : Addr) : entryFrame m #[(.ref ob)] 1 = mkF m 0 #[.val (.ref ob)] [] := by first | (simp [entryFrame, mkF, argsToLocals, Value.category]; done) | rfl
theorem rm6 (l : Launch) (Z : State) (a0 : Array Value) (hw : ∀ d ∈ tables_1, d.before a0 Z = true) (ob : Addr) (h0 : Heap) (n0 : Nat) (f_position : Int32) (f_end : Int32) (vs : List Int32) {f_input : Addr} (F_input : Fld Z h0 ob "com/example/inwrap/inwrap/DerReader" "input" "[B" (.ref f_input)) (F_position : Fld Z h0 ob "com/example/inwrap/inwrap/DerReader" "position" "I" (.int f_position)) (F_end : Fld Z h0 ob "com/example/inwrap/inwrap/DerReader" "end" "I" (.int f_end)) (V_in : AI Z h0 f_input .byte vs) (E_ob : Exa Z h0 ob "com/example/inwrap/inwrap/DerReader") (hne : ¬ (f_position = f_end)) (hp0 : ¬ f_position < 0) (hp1 : f_position.toNatClampNeg < vs.length) :
    Con l Z (⟨"com/example/inwrap/inwrap/DerReader", "peekTag", "()I"⟩ : MethodName) prog_5_method_4_code 1 (some .int) ({ frames := 1, cells := 0, slots := 0, locals := 18 } : Room) #[(.ref ob)] h0 (QP (some (.int (K6_0 f_position f_end vs))) h0 n0) := by
  refine Con.of (plainFor_of_name (by first | (simp [plainName, overriddenIn]; done) | decide +kernel)) ?_
  intro p e s m below meth c T X hx hZ hby hml hown hnm hret hlk e0
  rw [ef_6]
  exact bk6_0 X hx hZ hw hby hml hown hret hlk e0 (Fr.nil n0) F_input F_position F_end V_in E_ob hne hp0 hp1
theorem own_cast (x : Int32) : x.toInt64.toInt32 = x := by simp
theorem own_small {x : Int32} {k : Int} (h : 0 ≤ x.toInt ∧ x.toInt ≤ k) (hk : k < 128) : ¬ (x = (128 : Int32)) ∧ ¬ ((128 : Int32) < x) := by
  have e : (128 : Int32).toInt = 128 := by decide
  rw [← Int32.toInt_inj, Int32.lt_iff_toInt_lt, e]
  omega
theorem own_fit {x : Int32} {k : Int64} {n : Int} (h : 0 ≤ x.toInt ∧ x.toInt ≤ n) (hk : k.toInt = n) : ¬ (k < x.toInt64) := by
  rw [Int64.lt_iff_toInt_lt, Int32.toInt_toInt64, hk]
  omega
theorem d5_0 : decode prog_5_method_6_code 0 = .ok (.aload_n 0, 1) := by decide +kernel
theorem d5_1 : decode prog_5_method_6_code 1 = .ok (.getfield 16, 3) := by decide +kernel
theorem d5_4 : decode prog_5_method_6_code 4 = .ok (.istore_n 1, 1) := by decide +kernel
theorem d5_5 : decode prog_5_method_6_code 5 = .ok (.aload_n 0, 1) := by decide +kernel
theorem d5_6 : decode prog_5_method_6_code 6 = .ok (.invokevirtual 36, 3) := by decide +kernel
theorem d5_9 : decode prog_5_method_6_code 9 = .ok (.istore_n 2, 1) := by decide +kernel
theorem d5_10 : decode prog_5_method_6_code 10 = .ok (.iload_n 2, 1) := by decide +kernel
theorem d5_11 : decode prog_5_method_6_code 11 = .ok (.bipush 31, 2) := by decide +kernel
theorem d5_13 : decode prog_5_method_6_code 13 = .ok (.iand, 1) := by decide +kernel
theorem d5_14 : decode prog_5_method_6_code 14 = .ok (.bipush 31, 2) := by decide +kernel
theorem d5_16 : decode prog_5_method_6_code 16 = .ok (.if_icmp .ne 17, 3) := by decide +kernel
theorem d5_19 : decode prog_5_method_6_code 19 = .ok (.new 27, 3) := by decide +kernel
theorem d5_22 : decode prog_5_method_6_code 22 = .ok (.dup, 1) := by decide +kernel
theorem d5_23 : decode prog_5_method_6_code 23 = .ok (.iload_n 1, 1) := by decide +kernel
theorem d5_29 : decode prog_5_method_6_code 29 = .ok (.invokespecial 33, 3) := by decide +kernel
theorem d5_33 : decode prog_5_method_6_code 33 = .ok (.aload_n 0, 1) := by decide +kernel
theorem d5_34 : decode prog_5_method_6_code 34 = .ok (.getfield 20, 3) := by decide +kernel
theorem d5_37 : decode prog_5_method_6_code 37 = .ok (.aload_n 0, 1) := by decide +kernel
theorem d5_38 : decode prog_5_method_6_code 38 = .ok (.getfield 16, 3) := by decide +kernel
theorem d5_41 : decode prog_5_method_6_code 41 = .ok (.isub, 1) := by decide +kernel
theorem d5_42 : decode prog_5_method_6_code 42 = .ok (.iconst 2, 1) := by decide +kernel
theorem d5_43 : decode prog_5_method_6_code 43 = .ok (.if_icmp .ge 17, 3) := by decide +kernel
theorem d5_46 : decode prog_5_method_6_code 46 = .ok (.new 27, 3) := by decide +kernel
theorem d5_49 : decode prog_5_method_6_code 49 = .ok (.dup, 1) := by decide +kernel
theorem d5_50 : decode prog_5_method_6_code 50 = .ok (.iload_n 1, 1) := by decide +kernel
theorem d5_56 : decode prog_5_method_6_code 56 = .ok (.invokespecial 33, 3) := by decide +kernel
theorem d5_60 : decode prog_5_method_6_code 60 = .ok (.aload_n 0, 1) := by decide +kernel
theorem d5_61 : decode prog_5_method_6_code 61 = .ok (.getfield 12, 3) := by decide +kernel
theorem d5_64 : decode prog_5_method_6_code 64 = .ok (.aload_n 0, 1) := by decide +kernel
theorem d5_65 : decode prog_5_method_6_code 65 = .ok (.getfield 16, 3) := by decide +kernel
theorem d5_68 : decode prog_5_method_6_code 68 = .ok (.iconst 1, 1) := by decide +kernel
theorem d5_69 : decode prog_5_method_6_code 69 = .ok (.iadd, 1) := by decide +kernel
theorem d5_70 : decode prog_5_method_6_code 70 = .ok (.baload, 1) := by decide +kernel
theorem d5_71 : decode prog_5_method_6_code 71 = .ok (.sipush 255, 3) := by decide +kernel
theorem d5_74 : decode prog_5_method_6_code 74 = .ok (.iand, 1) := by decide +kernel
theorem d5_75 : decode prog_5_method_6_code 75 = .ok (.istore_n 3, 1) := by decide +kernel
theorem d5_76 : decode prog_5_method_6_code 76 = .ok (.aload_n 0, 1) := by decide +kernel
theorem d5_77 : decode prog_5_method_6_code 77 = .ok (.dup, 1) := by decide +kernel
theorem d5_78 : decode prog_5_method_6_code 78 = .ok (.getfield 16, 3) := by decide +kernel
theorem d5_81 : decode prog_5_method_6_code 81 = .ok (.iconst 2, 1) := by decide +kernel
theorem d5_82 : decode prog_5_method_6_code 82 = .ok (.iadd, 1) := by decide +kernel
theorem d5_83 : decode prog_5_method_6_code 83 = .ok (.putfield 16, 3) := by decide +kernel
theorem d5_86 : decode prog_5_method_6_code 86 = .ok (.iload_n 3, 1) := by decide +kernel
theorem d5_87 : decode prog_5_method_6_code 87 = .ok (.i2l, 1) := by decide +kernel
theorem d5_88 : decode prog_5_method_6_code 88 = .ok (.lstore 4, 2) := by decide +kernel
theorem d5_90 : decode prog_5_method_6_code 90 = .ok (.iload_n 3, 1) := by decide +kernel
theorem d5_91 : decode prog_5_method_6_code 91 = .ok (.sipush 128, 3) := by decide +kernel
theorem d5_94 : decode prog_5_method_6_code 94 = .ok (.if_icmp .ne 17, 3) := by decide +kernel
theorem d5_97 : decode prog_5_method_6_code 97 = .ok (.new 27, 3) := by decide +kernel
theorem d5_100 : decode prog_5_method_6_code 100 = .ok (.dup, 1) := by decide +kernel
theorem d5_101 : decode prog_5_method_6_code 101 = .ok (.iload_n 1, 1) := by decide +kernel
theorem d5_107 : decode prog_5_method_6_code 107 = .ok (.invokespecial 33, 3) := by decide +kernel
theorem d5_111 : decode prog_5_method_6_code 111 = .ok (.iload_n 3, 1) := by decide +kernel
theorem d5_112 : decode prog_5_method_6_code 112 = .ok (.sipush 128, 3) := by decide +kernel
theorem d5_115 : decode prog_5_method_6_code 115 = .ok (.if_icmp .le 138, 3) := by decide +kernel
theorem d5_118 : decode prog_5_method_6_code 118 = .ok (.iload_n 3, 1) := by decide +kernel
theorem d5_119 : decode prog_5_method_6_code 119 = .ok (.bipush 127, 2) := by decide +kernel
theorem d5_121 : decode prog_5_method_6_code 121 = .ok (.iand, 1) := by decide +kernel
theorem d5_122 : decode prog_5_method_6_code 122 = .ok (.istore 6, 2) := by decide +kernel
theorem d5_124 : decode prog_5_method_6_code 124 = .ok (.iload 6, 2) := by decide +kernel
theorem d5_126 : decode prog_5_method_6_code 126 = .ok (.iconst 4, 1) := by decide +kernel
theorem d5_127 : decode prog_5_method_6_code 127 = .ok (.if_icmp .gt 17, 3) := by decide +kernel
theorem d5_130 : decode prog_5_method_6_code 130 = .ok (.iload 6, 2) := by decide +kernel
theorem d5_132 : decode prog_5_method_6_code 132 = .ok (.aload_n 0, 1) := by decide +kernel
theorem d5_133 : decode prog_5_method_6_code 133 = .ok (.getfield 20, 3) := by decide +kernel
theorem d5_136 : decode prog_5_method_6_code 136 = .ok (.aload_n 0, 1) := by decide +kernel
theorem d5_137 : decode prog_5_method_6_code 137 = .ok (.getfield 16, 3) := by decide +kernel
theorem d5_140 : decode prog_5_method_6_code 140 = .ok (.isub, 1) := by decide +kernel
theorem d5_141 : decode prog_5_method_6_code 141 = .ok (.if_icmp .le 26, 3) := by decide +kernel
theorem d5_144 : decode prog_5_method_6_code 144 = .ok (.new 27, 3) := by decide +kernel
theorem d5_147 : decode prog_5_method_6_code 147 = .ok (.dup, 1) := by decide +kernel
theorem d5_148 : decode prog_5_method_6_code 148 = .ok (.iload_n 1, 1) := by decide +kernel
theorem d5_149 : decode prog_5_method_6_code 149 = .ok (.aload_n 0, 1) := by decide +kernel
theorem d5_150 : decode prog_5_method_6_code 150 = .ok (.getfield 20, 3) := by decide +kernel
theorem d5_153 : decode prog_5_method_6_code 153 = .ok (.aload_n 0, 1) := by decide +kernel
theorem d5_154 : decode prog_5_method_6_code 154 = .ok (.getfield 16, 3) := by decide +kernel
theorem d5_157 : decode prog_5_method_6_code 157 = .ok (.isub, 1) := by decide +kernel
theorem d5_163 : decode prog_5_method_6_code 163 = .ok (.invokespecial 33, 3) := by decide +kernel
theorem d5_167 : decode prog_5_method_6_code 167 = .ok (.lconst 0, 1) := by decide +kernel
theorem d5_168 : decode prog_5_method_6_code 168 = .ok (.lstore 4, 2) := by decide +kernel
theorem d5_170 : decode prog_5_method_6_code 170 = .ok (.iconst 0, 1) := by decide +kernel
theorem d5_171 : decode prog_5_method_6_code 171 = .ok (.istore 7, 2) := by decide +kernel
theorem d5_173 : decode prog_5_method_6_code 173 = .ok (.iload 7, 2) := by decide +kernel
theorem d5_175 : decode prog_5_method_6_code 175 = .ok (.iload 6, 2) := by decide +kernel
theorem d5_177 : decode prog_5_method_6_code 177 = .ok (.if_icmp .ge 38, 3) := by decide +kernel
theorem d5_180 : decode prog_5_method_6_code 180 = .ok (.lload 4, 2) := by decide +kernel
theorem d5_182 : decode prog_5_method_6_code 182 = .ok (.bipush 8, 2) := by decide +kernel
theorem d5_184 : decode prog_5_method_6_code 184 = .ok (.lshl, 1) := by decide +kernel
theorem d5_185 : decode prog_5_method_6_code 185 = .ok (.aload_n 0, 1) := by decide +kernel
theorem d5_186 : decode prog_5_method_6_code 186 = .ok (.getfield 12, 3) := by decide +kernel
theorem d5_189 : decode prog_5_method_6_code 189 = .ok (.aload_n 0, 1) := by decide +kernel
theorem d5_190 : decode prog_5_method_6_code 190 = .ok (.dup, 1) := by decide +kernel
theorem d5_191 : decode prog_5_method_6_code 191 = .ok (.getfield 16, 3) := by decide +kernel
theorem d5_194 : decode prog_5_method_6_code 194 = .ok (.dup_x1, 1) := by decide +kernel
theorem d5_195 : decode prog_5_method_6_code 195 = .ok (.iconst 1, 1) := by decide +kernel
theorem d5_196 : decode prog_5_method_6_code 196 = .ok (.iadd, 1) := by decide +kernel
theorem d5_197 : decode prog_5_method_6_code 197 = .ok (.putfield 16, 3) := by decide +kernel
theorem d5_200 : decode prog_5_method_6_code 200 = .ok (.baload, 1) := by decide +kernel
theorem d5_201 : decode prog_5_method_6_code 201 = .ok (.sipush 255, 3) := by decide +kernel
theorem d5_204 : decode prog_5_method_6_code 204 = .ok (.iand, 1) := by decide +kernel
theorem d5_205 : decode prog_5_method_6_code 205 = .ok (.i2l, 1) := by decide +kernel
theorem d5_206 : decode prog_5_method_6_code 206 = .ok (.lor, 1) := by decide +kernel
theorem d5_207 : decode prog_5_method_6_code 207 = .ok (.lstore 4, 2) := by decide +kernel
theorem d5_209 : decode prog_5_method_6_code 209 = .ok (.iinc 7 1, 3) := by decide +kernel
theorem d5_212 : decode prog_5_method_6_code 212 = .ok (.goto (-39), 3) := by decide +kernel
theorem d5_215 : decode prog_5_method_6_code 215 = .ok (.lload 4, 2) := by decide +kernel
theorem d5_217 : decode prog_5_method_6_code 217 = .ok (.ldc2_w 56, 3) := by decide +kernel
theorem d5_220 : decode prog_5_method_6_code 220 = .ok (.lcmp, 1) := by decide +kernel
theorem d5_221 : decode prog_5_method_6_code 221 = .ok (.ifCond .lt 18, 3) := by decide +kernel
theorem d5_224 : decode prog_5_method_6_code 224 = .ok (.lload 4, 2) := by decide +kernel
theorem d5_226 : decode prog_5_method_6_code 226 = .ok (.bipush 8, 2) := by decide +kernel
theorem d5_228 : decode prog_5_method_6_code 228 = .ok (.iload 6, 2) := by decide +kernel
theorem d5_230 : decode prog_5_method_6_code 230 = .ok (.iconst 1, 1) := by decide +kernel
theorem d5_231 : decode prog_5_method_6_code 231 = .ok (.isub, 1) := by decide +kernel
theorem d5_232 : decode prog_5_method_6_code 232 = .ok (.imul, 1) := by decide +kernel
theorem d5_233 : decode prog_5_method_6_code 233 = .ok (.lshr, 1) := by decide +kernel
theorem d5_234 : decode prog_5_method_6_code 234 = .ok (.lconst 0, 1) := by decide +kernel
theorem d5_235 : decode prog_5_method_6_code 235 = .ok (.lcmp, 1) := by decide +kernel
theorem d5_236 : decode prog_5_method_6_code 236 = .ok (.ifCond .ne 17, 3) := by decide +kernel
theorem d5_239 : decode prog_5_method_6_code 239 = .ok (.new 27, 3) := by decide +kernel
theorem d5_242 : decode prog_5_method_6_code 242 = .ok (.dup, 1) := by decide +kernel
theorem d5_243 : decode prog_5_method_6_code 243 = .ok (.iload_n 1, 1) := by decide +kernel
theorem d5_249 : decode prog_5_method_6_code 249 = .ok (.invokespecial 33, 3) := by decide +kernel
theorem d5_253 : decode prog_5_method_6_code 253 = .ok (.lload 4, 2) := by decide +kernel
theorem d5_255 : decode prog_5_method_6_code 255 = .ok (.aload_n 0, 1) := by decide +kernel
theorem d5_256 : decode prog_5_method_6_code 256 = .ok (.getfield 20, 3) := by decide +kernel
theorem d5_259 : decode prog_5_method_6_code 259 = .ok (.aload_n 0, 1) := by decide +kernel
theorem d5_260 : decode prog_5_method_6_code 260 = .ok (.getfield 16, 3) := by decide +kernel
theorem d5_263 : decode prog_5_method_6_code 263 = .ok (.isub, 1) := by decide +kernel
theorem d5_264 : decode prog_5_method_6_code 264 = .ok (.i2l, 1) := by decide +kernel
theorem d5_265 : decode prog_5_method_6_code 265 = .ok (.lcmp, 1) := by decide +kernel
theorem d5_266 : decode prog_5_method_6_code 266 = .ok (.ifCond .le 28, 3) := by decide +kernel
theorem d5_269 : decode prog_5_method_6_code 269 = .ok (.new 27, 3) := by decide +kernel
theorem d5_272 : decode prog_5_method_6_code 272 = .ok (.dup, 1) := by decide +kernel
theorem d5_273 : decode prog_5_method_6_code 273 = .ok (.iload_n 1, 1) := by decide +kernel
theorem d5_274 : decode prog_5_method_6_code 274 = .ok (.lload 4, 2) := by decide +kernel
theorem d5_276 : decode prog_5_method_6_code 276 = .ok (.aload_n 0, 1) := by decide +kernel
theorem d5_277 : decode prog_5_method_6_code 277 = .ok (.getfield 20, 3) := by decide +kernel
theorem d5_280 : decode prog_5_method_6_code 280 = .ok (.aload_n 0, 1) := by decide +kernel
theorem d5_281 : decode prog_5_method_6_code 281 = .ok (.getfield 16, 3) := by decide +kernel
theorem d5_284 : decode prog_5_method_6_code 284 = .ok (.isub, 1) := by decide +kernel
theorem d5_290 : decode prog_5_method_6_code 290 = .ok (.invokespecial 33, 3) := by decide +kernel
theorem d5_294 : decode prog_5_method_6_code 294 = .ok (.new 2, 3) := by decide +kernel
theorem d5_297 : decode prog_5_method_6_code 297 = .ok (.dup, 1) := by decide +kernel
theorem d5_298 : decode prog_5_method_6_code 298 = .ok (.aload_n 0, 1) := by decide +kernel
theorem d5_299 : decode prog_5_method_6_code 299 = .ok (.getfield 12, 3) := by decide +kernel
theorem d5_302 : decode prog_5_method_6_code 302 = .ok (.aload_n 0, 1) := by decide +kernel
theorem d5_303 : decode prog_5_method_6_code 303 = .ok (.getfield 16, 3) := by decide +kernel
theorem d5_306 : decode prog_5_method_6_code 306 = .ok (.aload_n 0, 1) := by decide +kernel
theorem d5_307 : decode prog_5_method_6_code 307 = .ok (.getfield 16, 3) := by decide +kernel
theorem d5_310 : decode prog_5_method_6_code 310 = .ok (.lload 4, 2) := by decide +kernel
theorem d5_312 : decode prog_5_method_6_code 312 = .ok (.l2i, 1) := by decide +kernel
theorem d5_313 : decode prog_5_method_6_code 313 = .ok (.iadd, 1) := by decide +kernel
theorem d5_314 : decode prog_5_method_6_code 314 = .ok (.invokespecial 1, 3) := by decide +kernel
theorem d5_317 : decode prog_5_method_6_code 317 = .ok (.astore 6, 2) := by decide +kernel
theorem d5_319 : decode prog_5_method_6_code 319 = .ok (.aload_n 0, 1) := by decide +kernel
theorem d5_320 : decode prog_5_method_6_code 320 = .ok (.dup, 1) := by decide +kernel
theorem d5_321 : decode prog_5_method_6_code 321 = .ok (.getfield 16, 3) := by decide +kernel
theorem d5_324 : decode prog_5_method_6_code 324 = .ok (.lload 4, 2) := by decide +kernel
theorem d5_326 : decode prog_5_method_6_code 326 = .ok (.l2i, 1) := by decide +kernel
theorem d5_327 : decode prog_5_method_6_code 327 = .ok (.iadd, 1) := by decide +kernel
theorem d5_328 : decode prog_5_method_6_code 328 = .ok (.putfield 16, 3) := by decide +kernel
theorem d5_331 : decode prog_5_method_6_code 331 = .ok (.aload 6, 2) := by decide +kernel
theorem d5_333 : decode prog_5_method_6_code 333 = .ok (.areturn, 1) := by decide +kernel
theorem ef_5 (m : MethodId) (ob : Addr) : entryFrame m #[(.ref ob)] 8 = mkF m 0 #[.val (.ref ob), .unset, .unset, .unset, .unset, .unset, .unset, .unset] [] := by first | (simp [entryFrame, mkF, argsToLocals, Value.category]; done) | rfl
set_option maxRecDepth 65536 in
set_option maxHeartbeats 40000000 in
theorem rm5 (l : Launch) (Z : State) (a0 : Array Value) (hw : ∀ d ∈ tables_1, d.before a0 Z = true) (ob : Addr) (h0 : Heap) (n0 : Nat) (Z0 : n0 ≤ h0.size) (ar : Addr) (y0 : Int32) (y1 : Int32) (y2 : Int32) (y3 : Int32) (E_ob : Exa Z h0 ob "com/example/inwrap/inwrap/DerReader") (g_ob : n0 ≤ ob) (F_input : Fld Z h0 ob "com/example/inwrap/inwrap/DerReader" "input" "[B" (.ref ar)) (F_position : Fld Z h0 ob "com/example/inwrap/inwrap/DerReader" "position" "I" (.int (0 : Int32))) (F_end : Fld Z h0 ob "com/example/inwrap/inwrap/DerReader" "end" "I" (.int (4 : Int32))) (V_ar : AI Z h0 ar .byte [y0, y1, y2, y3]) (nar_ob : ar ≠ ob) (htag : ¬ (((y0 &&& (255 : Int32)) &&& (31 : Int32)) = (31 : Int32))) (hlen : 0 ≤ (y1 &&& (255 : Int32)).toInt ∧ (y1 &&& (255 : Int32)).toInt ≤ 2) :
    Con l Z (⟨"com/example/inwrap/inwrap/DerReader", "readAny", "()Lcom/example/inwrap/inwrap/DerReader;"⟩ : MethodName) prog_5_method_6_code 8 (some (.object "com/example/inwrap/inwrap/DerReader")) ({ frames := 2, cells := 1, slots := 3, locals := 37 } : Room) #[(.ref ob)] h0 (fun v h L => ∃ b : Addr, v = some (.ref b) ∧ Fr n0 L ∧ Keep h0 h [ob] ∧ h0.size ≤ b ∧ Exa Z h b "com/example/inwrap/inwrap/DerReader" ∧ Fld Z h b "com/example/inwrap/inwrap/DerReader" "input" "[B" (.ref ar) ∧ Fld Z h b "com/example/inwrap/inwrap/DerReader" "position" "I" (.int 2) ∧ Fld Z h b "com/example/inwrap/inwrap/DerReader" "end" "I" (.int ((2 : Int32) + (y1 &&& (255 : Int32)))) ∧ Fld Z h ob "com/example/inwrap/inwrap/DerReader" "position" "I" (.int ((2 : Int32) + (y1 &&& (255 : Int32)))) ∧ Fld Z h ob "com/example/inwrap/inwrap/DerReader" "input" "[B" (.ref ar) ∧ Fld Z h ob "com/example/inwrap/inwrap/DerReader" "end" "I" (.int (4 : Int32))) := by
  refine Con.of (plainFor_of_name (by first | (simp [plainName, overriddenIn]; done) | decide +kernel)) ?_
  intro p e s m below meth c T X hx hZ hby hml hown hnm hret hlk e0
  rw [ef_5]
  have N0 := Fr.nil n0
  have KP0 := Keep.refl h0 [ob]
  show Go p e below s 1 3 (fun v h L => ∃ b : Addr, v = some (.ref b) ∧ Fr n0 L ∧ Keep h0 h [ob] ∧ h0.size ≤ b ∧ Exa Z h b "com/example/inwrap/inwrap/DerReader" ∧ Fld Z h b "com/example/inwrap/inwrap/DerReader" "input" "[B" (.ref ar) ∧ Fld Z h b "com/example/inwrap/inwrap/DerReader" "position" "I" (.int 2) ∧ Fld Z h b "com/example/inwrap/inwrap/DerReader" "end" "I" (.int ((2 : Int32) + (y1 &&& (255 : Int32)))) ∧ Fld Z h ob "com/example/inwrap/inwrap/DerReader" "position" "I" (.int ((2 : Int32) + (y1 &&& (255 : Int32)))) ∧ Fld Z h ob "com/example/inwrap/inwrap/DerReader" "input" "[B" (.ref ar) ∧ Fld Z h ob "com/example/inwrap/inwrap/DerReader" "end" "I" (.int (4 : Int32))) T (mkF m 0 #[.val (.ref ob), .unset, .unset, .unset, .unset, .unset, .unset, .unset] [])
  refine w_aloadN X hx (hb hby d5_0) (pc' := 1) rfl rfl rfl ?_
  refine w_getF X hx hZ hown e0 F_position (hw _ (List.mem_of_getElem? (i := 15) rfl)) (hb hby d5_1) (pc' := 4) rfl (fun T18 X18 e18 => ?_)
  refine w_istoreN (Ls' := #[.val (.ref ob), .val (.int (0 : Int32)), .unset, .unset, .unset, .unset, .unset, .unset]) X18 hx (hb hby d5_4) (pc' := 5) rfl rfl ?_
  refine w_aloadN X18 hx (hb hby d5_5) (pc' := 6) rfl rfl rfl ?_
  refine w_callV (argsL := []) (rest := []) (a := ob) X18 hx hZ hown e18 E_ob (rm6 l Z a0 hw ob h0 n0 (0 : Int32) (4 : Int32) [y0, y1, y2, y3] F_input F_position F_end V_ar E_ob (by decide) (by decide) (by show _ < 4; decide)) (hw _ (List.mem_of_getElem? (i := 30) rfl)) (hw _ (List.mem_of_getElem? (i := 31) rfl)) (hw _ (List.mem_of_getElem? (i := 33) rfl)) (hw _ (List.mem_of_getElem? (i := 32) rfl)) (hw _ (List.mem_of_getElem? (i := 2) rfl)) (hw _ (List.mem_of_getElem? (i := 34) rfl)) (by decide) (by decide) (W := 0) (by decide) (by decide) (by decide) (by rw [hml]; rfl) (lenOf pd_1 rfl) (Nat.le_refl _) rfl (hb hby d5_6) (pc' := 9) rfl (fun T19 L19 v19 X19 hQ19 => ?_)
  obtain ⟨rfl, N19q, e19⟩ := hQ19
  have N19 := Fr.app N0 N19q
  have X19 : Stand p l e ({ frames := 2, cells := 1, slots := 3, locals := 37 } : Room) s m _ below meth c T19 _ 0 0 := X19
  show Go p e below s 1 3 (fun v h L => ∃ b : Addr, v = some (.ref b) ∧ Fr n0 L ∧ Keep h0 h [ob] ∧ h0.size ≤ b ∧ Exa Z h b "com/example/inwrap/inwrap/DerReader" ∧ Fld Z h b "com/example/inwrap/inwrap/DerReader" "input" "[B" (.ref ar) ∧ Fld Z h b "com/example/inwrap/inwrap/DerReader" "position" "I" (.int 2) ∧ Fld Z h b "com/example/inwrap/inwrap/DerReader" "end" "I" (.int ((2 : Int32) + (y1 &&& (255 : Int32)))) ∧ Fld Z h ob "com/example/inwrap/inwrap/DerReader" "position" "I" (.int ((2 : Int32) + (y1 &&& (255 : Int32)))) ∧ Fld Z h ob "com/example/inwrap/inwrap/DerReader" "input" "[B" (.ref ar) ∧ Fld Z h ob "com/example/inwrap/inwrap/DerReader" "end" "I" (.int (4 : Int32))) T19 (mkF m 9 #[.val (.ref ob), .val (.int (0 : Int32)), .unset, .unset, .unset, .unset, .unset, .unset] [(.int (K6_0 (0 : Int32) (4 : Int32) [y0, y1, y2, y3] ))])
  refine w_istoreN (Ls' := #[.val (.ref ob), .val (.int (0 : Int32)), .val (.int (K6_0 (0 : Int32) (4 : Int32) [y0, y1, y2, y3] )), .unset, .unset, .unset, .unset, .unset]) X19 hx (hb hby d5_9) (pc' := 10) rfl rfl ?_
  refine w_iloadN X19 hx (hb hby d5_10) (pc' := 11) rfl rfl ?_
  refine w_bipush (v := 31) X19 hx (hb hby d5_11) (pc' := 13) rfl rfl ?_
  refine w_iand X19 hx (hb hby d5_13) (pc' := 14) rfl ?_
  refine w_bipush (v := 31) X19 hx (hb hby d5_14) (pc' := 16) rfl rfl ?_
  have hf16 : ¬ (((K6_0 (0 : Int32) (4 : Int32) [y0, y1, y2, y3] ) &&& (31 : Int32)) = (31 : Int32)) := htag
  refine w_icmp_ne X19 hx (hb hby d5_16) (pf := 19) (pt := 33) rfl (by decide) (by decide) (fun hc16 => ?_) (fun hc => absurd hc hf16)
  refine w_aloadN X19 hx (hb hby d5_33) (pc' := 34) rfl rfl rfl ?_
  refine w_getF X19 hx hZ hown e19 F_end (hw _ (List.mem_of_getElem? (i := 17) rfl)) (hb hby d5_34) (pc' := 37) rfl (fun T20 X20 e20 => ?_)
  refine w_aloadN X20 hx (hb hby d5_37) (pc' := 38) rfl rfl rfl ?_
  refine w_getF X20 hx hZ hown e20 F_position (hw _ (List.mem_of_getElem? (i := 15) rfl)) (hb hby d5_38) (pc' := 41) rfl (fun T21 X21 e21 => ?_)
  refine w_isub X21 hx (hb hby d5_41) (pc' := 42) rfl ?_
  rw [show ((4 : Int32) - (0 : Int32)) = (4 : Int32) from by decide]
  refine w_iconst (v := 2) X21 hx (hb hby d5_42) (pc' := 43) rfl rfl ?_
  have hf43 : ¬ ((4 : Int32) < (2 : Int32)) := (by decide)
  refine w_icmp_ge X21 hx (hb hby d5_43) (pf := 46) (pt := 60) rfl (by decide) (by decide) (fun hc43 => ?_) (fun hc => absurd hc hf43)
  refine w_aloadN X21 hx (hb hby d5_60) (pc' := 61) rfl rfl rfl ?_
  refine w_getF X21 hx hZ hown e21 F_input (hw _ (List.mem_of_getElem? (i := 13) rfl)) (hb hby d5_61) (pc' := 64) rfl (fun T22 X22 e22 => ?_)
  refine w_aloadN X22 hx (hb hby d5_64) (pc' := 65) rfl rfl rfl ?_
  refine w_getF X22 hx hZ hown e22 F_position (hw _ (List.mem_of_getElem? (i := 15) rfl)) (hb hby d5_65) (pc' := 68) rfl (fun T23 X23 e23 => ?_)
  refine w_iconst (v := 1) X23 hx (hb hby d5_68) (pc' := 69) rfl rfl ?_
  refine w_iadd X23 hx (hb hby d5_69) (pc' := 70) rfl ?_
  rw [show ((0 : Int32) + (1 : Int32)) = (1 : Int32) from by decide]
  refine w_baload X23 hx hZ e23 V_ar (v := y1) (by decide) rfl (hb hby d5_70) (pc' := 71) rfl ?_
  refine w_sipush (v := 255) X23 hx (hb hby d5_71) (pc' := 74) rfl rfl ?_
  refine w_iand X23 hx (hb hby d5_74) (pc' := 75) rfl ?_
  refine w_istoreN (Ls' := #[.val (.ref ob), .val (.int (0 : Int32)), .val (.int (K6_0 (0 : Int32) (4 : Int32) [y0, y1, y2, y3] )), .val (.int (y1 &&& (255 : Int32))), .unset, .unset, .unset, .unset]) X23 hx (hb hby d5_75) (pc' := 76) rfl rfl ?_
  refine w_aloadN X23 hx (hb hby d5_76) (pc' := 77) rfl rfl rfl ?_
  refine w_dup X23 hx (hb hby d5_77) (pc' := 78) rfl rfl ?_
  refine w_getF X23 hx hZ hown e23 F_position (hw _ (List.mem_of_getElem? (i := 15) rfl)) (hb hby d5_78) (pc' := 81) rfl (fun T24 X24 e24 => ?_)
  refine w_iconst (v := 2) X24 hx (hb hby d5_81) (pc' := 82) rfl rfl ?_
  refine w_iadd X24 hx (hb hby d5_82) (pc' := 83) rfl ?_
  rw [show ((0 : Int32) + (2 : Int32)) = (2 : Int32) from by decide]
  refine w_putF X24 hx hZ hown e24 F_position E_ob (hw _ (List.mem_of_getElem? (i := 15) rfl)) (Or.inl (hw _ (List.mem_of_getElem? (i := 16) rfl))) (hw _ (List.mem_of_getElem? (i := 1) rfl)) (ty := .int) (by decide) rfl rfl (hb hby d5_83) (pc' := 86) rfl (fun T25 h25 X25 e25 W25 => ?_)
  have F25 := F_position.same W25
  have KP25 := KP0.wr W25 (Or.inl (by simp))
  have N25 := Fr.snoc X25 N19 g_ob
  have zn25 : n0 ≤ h25.size := by rw [W25.size]; exact Z0
  refine w_iloadN X25 hx (hb hby d5_86) (pc' := 87) rfl rfl ?_
  refine w_i2l X25 hx (hb hby d5_87) (pc' := 88) rfl ?_
  refine w_lstore (Ls' := #[.val (.ref ob), .val (.int (0 : Int32)), .val (.int (K6_0 (0 : Int32) (4 : Int32) [y0, y1, y2, y3] )), .val (.int (y1 &&& (255 : Int32))), .val (.long (y1 &&& (255 : Int32)).toInt64), .second, .unset, .unset]) X25 hx (hb hby d5_88) (pc' := 90) rfl rfl ?_
  refine w_iloadN X25 hx (hb hby d5_90) (pc' := 91) rfl rfl ?_
  refine w_sipush (v := 128) X25 hx (hb hby d5_91) (pc' := 94) rfl rfl ?_
  have hf94 : ¬ ((y1 &&& (255 : Int32)) = (128 : Int32)) := (own_small hlen (by decide)).1
  refine w_icmp_ne X25 hx (hb hby d5_94) (pf := 97) (pt := 111) rfl (by decide) (by decide) (fun hc94 => ?_) (fun hc => absurd hc hf94)
  refine w_iloadN X25 hx (hb hby d5_111) (pc' := 112) rfl rfl ?_
  refine w_sipush (v := 128) X25 hx (hb hby d5_112) (pc' := 115) rfl rfl ?_
  have hf115 : ¬ ((128 : Int32) < (y1 &&& (255 : Int32))) := (own_small hlen (by decide)).2
  refine w_icmp_le X25 hx (hb hby d5_115) (pf := 118) (pt := 253) rfl (by decide) (by decide) (fun hc115 => ?_) (fun hc => absurd hc hf115)
  refine w_lload X25 hx (hb hby d5_253) (pc' := 255) rfl rfl ?_
  refine w_aloadN X25 hx (hb hby d5_255) (pc' := 256) rfl rfl rfl ?_
  have f26 := F_end.other W25 (Or.inr (slot_ne (Or.inr (hw _ (List.mem_of_getElem? (i := 18) rfl))) (Or.inl (hw _ (List.mem_of_getElem? (i := 16) rfl))) (by decide) (t := .int) (t' := .int) (by decide) (by decide)))
  refine w_getF X25 hx hZ hown e25 f26 (hw _ (List.mem_of_getElem? (i := 17) rfl)) (hb hby d5_256) (pc' := 259) rfl (fun T27 X27 e27 => ?_)
  refine w_aloadN X27 hx (hb hby d5_259) (pc' := 260) rfl rfl rfl ?_
  refine w_getF X27 hx hZ hown e27 F25 (hw _ (List.mem_of_getElem? (i := 15) rfl)) (hb hby d5_260) (pc' := 263) rfl (fun T28 X28 e28 => ?_)
  refine w_isub X28 hx (hb hby d5_263) (pc' := 264) rfl ?_
  rw [show ((4 : Int32) - (2 : Int32)) = (2 : Int32) from by decide]
  refine w_i2l X28 hx (hb hby d5_264) (pc' := 265) rfl ?_
  rw [show (2 : Int32).toInt64 = (2 : Int64) from by decide]
  refine w_lcmp X28 hx (hb hby d5_265) (pc' := 266) rfl ?_
  have hf266 : ¬ ((2 : Int64) < (y1 &&& (255 : Int32)).toInt64) := own_fit hlen (by decide)
  refine w_ifL_le X28 hx (hb hby d5_266) (pf := 269) (pt := 294) rfl (by decide) (by decide) (fun hc266 => ?_) (fun hc => absurd hc hf266)
  refine w_newO X28 hx hZ hown e28 (hw _ (List.mem_of_getElem? (i := 36) rfl)) (hw _ (List.mem_of_getElem? (i := 1) rfl)) (hw _ (List.mem_of_getElem? (i := 2) rfl)) (hb hby d5_294) (by decide) (by decide) (pc' := 297) rfl (fun T29 h29 b29 X29 e29 E29 q29 A29 D29 => ?_)
  have g_b29 : n0 ≤ b29 := by rw [q29]; exact zn25
  have f30 := E_ob.wr W25
  have ne_ob_b29 : ob ≠ b29 := by rw [q29]; exact Nat.ne_of_lt f30.lt
  have f31 := V_ar.other W25 nar_ob
  have ne_ar_b29 : ar ≠ b29 := by rw [q29]; exact Nat.ne_of_lt f31.lt
  have sz_b29 : h0.size ≤ b29 := by rw [q29]; exact KP25.1
  have KP29 := KP25.ext E29
  have F_input_b29 : Fld Z h29 b29 "com/example/inwrap/inwrap/DerReader" "input" "[B" .null := D29 (Or.inr (hw _ (List.mem_of_getElem? (i := 14) rfl))) (ty := (.array .byte)) (by decide)
  have F_position_b29 : Fld Z h29 b29 "com/example/inwrap/inwrap/DerReader" "position" "I" (.int (0 : Int32)) := D29 (Or.inl (hw _ (List.mem_of_getElem? (i := 16) rfl))) (ty := .int) (by decide)
  have F_end_b29 : Fld Z h29 b29 "com/example/inwrap/inwrap/DerReader" "end" "I" (.int (0 : Int32)) := D29 (Or.inr (hw _ (List.mem_of_getElem? (i := 18) rfl))) (ty := .int) (by decide)
  have zn29 : n0 ≤ h29.size := Nat.le_trans zn25 E29.1
  refine w_dup X29 hx (hb hby d5_297) (pc' := 298) rfl rfl ?_
  refine w_aloadN X29 hx (hb hby d5_298) (pc' := 299) rfl rfl rfl ?_
  have f32 := F_input.other W25 (Or.inr (slot_ne (Or.inr (hw _ (List.mem_of_getElem? (i := 14) rfl))) (Or.inl (hw _ (List.mem_of_getElem? (i := 16) rfl))) (by decide) (t := (.array .byte)) (t' := .int) (by decide) (by decide)))
  have f33 := f32.ext E29
  refine w_getF X29 hx hZ hown e29 f33 (hw _ (List.mem_of_getElem? (i := 13) rfl)) (hb hby d5_299) (pc' := 302) rfl (fun T34 X34 e34 => ?_)
  refine w_aloadN X34 hx (hb hby d5_302) (pc' := 303) rfl rfl rfl ?_
  have f35 := F25.ext E29
  refine w_getF X34 hx hZ hown e34 f35 (hw _ (List.mem_of_getElem? (i := 15) rfl)) (hb hby d5_303) (pc' := 306) rfl (fun T36 X36 e36 => ?_)
  refine w_aloadN X36 hx (hb hby d5_306) (pc' := 307) rfl rfl rfl ?_
  refine w_getF X36 hx hZ hown e36 f35 (hw _ (List.mem_of_getElem? (i := 15) rfl)) (hb hby d5_307) (pc' := 310) rfl (fun T37 X37 e37 => ?_)
  refine w_lload X37 hx (hb hby d5_310) (pc' := 312) rfl rfl ?_
  refine w_l2i X37 hx (hb hby d5_312) (pc' := 313) rfl ?_
  rw [own_cast]
  refine w_iadd X37 hx (hb hby d5_313) (pc' := 314) rfl ?_
  refine w_callI (argsL := [(.ref ar), (.int (2 : Int32)), (.int ((2 : Int32) + (y1 &&& (255 : Int32))))]) (rest := [(.ref b29)]) (a := b29) X37 hx hZ hown e37 (rm2 l Z a0 hw b29 ar (2 : Int32) ((2 : Int32) + (y1 &&& (255 : Int32))) h29 n0 zn29 A29 g_b29 F_input_b29 F_position_b29 F_end_b29) rfl (hw _ (List.mem_of_getElem? (i := 7) rfl)) (hw _ (List.mem_of_getElem? (i := 8) rfl)) (hw _ (List.mem_of_getElem? (i := 2) rfl)) (hw _ (List.mem_of_getElem? (i := 9) rfl)) (by decide) (by decide) (W := 1) (by decide) (by decide) (by decide) (by rw [hml]; rfl) (lenOf pd_2 rfl) (Nat.le_refl _) rfl (hb hby d5_314) (pc' := 317) rfl (fun T38 L38 v38 X38 hQ38 => ?_)
  obtain ⟨rfl, N38q, K38, F_input_38, F_position_38, F_end_38⟩ := hQ38
  have zn38 : n0 ≤ T38.heap.size := Nat.le_trans zn29 K38.1
  have KP38 := KP29.trans K38 (allS (Or.inr sz_b29) all0)
  have N38 := Fr.app N25 N38q
  have X38 : Stand p l e ({ frames := 2, cells := 1, slots := 3, locals := 37 } : Room) s m _ below meth c T38 _ 1 3 := X38
  show Go p e below s 1 3 (fun v h L => ∃ b : Addr, v = some (.ref b) ∧ Fr n0 L ∧ Keep h0 h [ob] ∧ h0.size ≤ b ∧ Exa Z h b "com/example/inwrap/inwrap/DerReader" ∧ Fld Z h b "com/example/inwrap/inwrap/DerReader" "input" "[B" (.ref ar) ∧ Fld Z h b "com/example/inwrap/inwrap/DerReader" "position" "I" (.int 2) ∧ Fld Z h b "com/example/inwrap/inwrap/DerReader" "end" "I" (.int ((2 : Int32) + (y1 &&& (255 : Int32)))) ∧ Fld Z h ob "com/example/inwrap/inwrap/DerReader" "position" "I" (.int ((2 : Int32) + (y1 &&& (255 : Int32)))) ∧ Fld Z h ob "com/example/inwrap/inwrap/DerReader" "input" "[B" (.ref ar) ∧ Fld Z h ob "com/example/inwrap/inwrap/DerReader" "end" "I" (.int (4 : Int32))) T38 (mkF m 317 #[.val (.ref ob), .val (.int (0 : Int32)), .val (.int (K6_0 (0 : Int32) (4 : Int32) [y0, y1, y2, y3] )), .val (.int (y1 &&& (255 : Int32))), .val (.long (y1 &&& (255 : Int32)).toInt64), .second, .unset, .unset] [(.ref b29)])
  refine w_astore (Ls' := #[.val (.ref ob), .val (.int (0 : Int32)), .val (.int (K6_0 (0 : Int32) (4 : Int32) [y0, y1, y2, y3] )), .val (.int (y1 &&& (255 : Int32))), .val (.long (y1 &&& (255 : Int32)).toInt64), .second, .val (.ref b29), .unset]) X38 hx (hb hby d5_317) (pc' := 319) rfl rfl rfl ?_
  refine w_aloadN X38 hx (hb hby d5_319) (pc' := 320) rfl rfl rfl ?_
  refine w_dup X38 hx (hb hby d5_320) (pc' := 321) rfl rfl ?_
  have f39 := f35.keep K38 (ninS ne_ob_b29 nin0)
  refine w_getF X38 hx hZ hown rfl f39 (hw _ (List.mem_of_getElem? (i := 15) rfl)) (hb hby d5_321) (pc' := 324) rfl (fun T40 X40 e40 => ?_)
  refine w_lload X40 hx (hb hby d5_324) (pc' := 326) rfl rfl ?_
  refine w_l2i X40 hx (hb hby d5_326) (pc' := 327) rfl ?_
  rw [own_cast]
  refine w_iadd X40 hx (hb hby d5_327) (pc' := 328) rfl ?_
  have f41 := f30.ext E29
  have f42 := f41.keep K38
  refine w_putF X40 hx hZ hown e40 f39 f42 (hw _ (List.mem_of_getElem? (i := 15) rfl)) (Or.inl (hw _ (List.mem_of_getElem? (i := 16) rfl))) (hw _ (List.mem_of_getElem? (i := 1) rfl)) (ty := .int) (by decide) rfl rfl (hb hby d5_328) (pc' := 331) rfl (fun T43 h43 X43 e43 W43 => ?_)
  have F43 := f39.same W43
  have KP43 := KP38.wr W43 (Or.inl (by simp))
  have N43 := Fr.snoc X43 N38 g_ob
  have zn43 : n0 ≤ h43.size := by rw [W43.size]; exact zn38
  refine w_aload X43 hx (hb hby d5_331) (pc' := 333) rfl rfl rfl ?_
  have f44 := A29.keep K38
  have f45 := f44.wr W43
  have f46 := F_input_38.other W43 (Or.inl (Ne.symm ne_ob_b29))
  have f47 := F_position_38.other W43 (Or.inl (Ne.symm ne_ob_b29))
  have f48 := F_end_38.other W43 (Or.inl (Ne.symm ne_ob_b29))
  have f49 := f33.keep K38 (ninS ne_ob_b29 nin0)
  have f50 := f49.other W43 (Or.inr (slot_ne (Or.inr (hw _ (List.mem_of_getElem? (i := 14) rfl))) (Or.inl (hw _ (List.mem_of_getElem? (i := 16) rfl))) (by decide) (t := (.array .byte)) (t' := .int) (by decide) (by decide)))
  have f51 := f26.ext E29
  have f52 := f51.keep K38 (ninS ne_ob_b29 nin0)
  have f53 := f52.other W43 (Or.inr (slot_ne (Or.inr (hw _ (List.mem_of_getElem? (i := 18) rfl))) (Or.inl (hw _ (List.mem_of_getElem? (i := 16) rfl))) (by decide) (t := .int) (t' := .int) (by decide) (by decide)))
  exact w_retA X43 hx hret rfl hlk (hb hby d5_333) (by decide) (by decide) (by rw [e43]; exact ⟨b29, rfl, N43, KP43, sz_b29, f45, f46, f47, f48, F43, f50, f53⟩)
theorem d1_0 : decode prog_5_method_1_code 0 = .ok (.aload_n 0, 1) := by decide +kernel
theorem d1_1 : decode prog_5_method_1_code 1 = .ok (.aload_n 1, 1) := by decide +kernel
theorem d1_2 : decode prog_5_method_1_code 2 = .ok (.iconst 0, 1) := by decide +kernel
theorem d1_3 : decode prog_5_method_1_code 3 = .ok (.aload_n 1, 1) := by decide +kernel
theorem d1_4 : decode prog_5_method_1_code 4 = .ok (.arraylength, 1) := by decide +kernel
theorem d1_5 : decode prog_5_method_1_code 5 = .ok (.invokespecial 1, 3) := by decide +kernel
theorem d1_8 : decode prog_5_method_1_code 8 = .ok (.return_, 1) := by decide +kernel
theorem ef_1 (m : MethodId) (ob : Addr) (x1 : Addr) : entryFrame m #[(.ref ob), (.ref x1)] 2 = mkF m 0 #[.val (.ref ob), .val (.ref x1)] [] := by first | (simp [entryFrame, mkF, argsToLocals, Value.category]; done) | rfl
set_option maxRecDepth 65536 in
set_option maxHeartbeats 40000000 in
theorem rm1_0 (l : Launch) (Z : State) (a0 : Array Value) (hw : ∀ d ∈ tables_1, d.before a0 Z = true) (ob : Addr) (x1 : Addr) (h0 : Heap) (n0 : Nat) (Z0 : n0 ≤ h0.size) (E_ob : Exa Z h0 ob "com/example/inwrap/inwrap/DerReader") (g_ob : n0 ≤ ob) (F_input : Fld Z h0 ob "com/example/inwrap/inwrap/DerReader" "input" "[B" .null) (F_position : Fld Z h0 ob "com/example/inwrap/inwrap/DerReader" "position" "I" (.int (0 : Int32))) (F_end : Fld Z h0 ob "com/example/inwrap/inwrap/DerReader" "end" "I" (.int (0 : Int32))) (V_x1 : AI Z h0 x1 .byte []) (nob_x1 : x1 ≠ ob) :
    Con l Z (⟨"com/example/inwrap/inwrap/DerReader", "<init>", "([B)V"⟩ : MethodName) prog_5_method_1_code 2 none ({ frames := 2, cells := 0, slots := 0, locals := 37 } : Room) #[(.ref ob), (.ref x1)] h0 (fun v h L => v = none ∧ Fr n0 L ∧ Keep h0 h [ob] ∧ Fld Z h ob "com/example/inwrap/inwrap/DerReader" "input" "[B" (.ref x1) ∧ Fld Z h ob "com/example/inwrap/inwrap/DerReader" "position" "I" (.int (0 : Int32)) ∧ Fld Z h ob "com/example/inwrap/inwrap/DerReader" "end" "I" (.int (0 : Int32))) := by
  refine Con.of (plainFor_of_name (by first | (simp [plainName, overriddenIn]; done) | decide +kernel)) ?_
  intro p e s m below meth c T X hx hZ hby hml hown hnm hret hlk e0
  rw [ef_1]
  have N0 := Fr.nil n0
  have KP0 := Keep.refl h0 [ob]
  show Go p e below s 0 0 (fun v h L => v = none ∧ Fr n0 L ∧ Keep h0 h [ob] ∧ Fld Z h ob "com/example/inwrap/inwrap/DerReader" "input" "[B" (.ref x1) ∧ Fld Z h ob "com/example/inwrap/inwrap/DerReader" "position" "I" (.int (0 : Int32)) ∧ Fld Z h ob "com/example/inwrap/inwrap/DerReader" "end" "I" (.int (0 : Int32))) T (mkF m 0 #[.val (.ref ob), .val (.ref x1)] [])
  refine w_aloadN X hx (hb hby d1_0) (pc' := 1) rfl rfl rfl ?_
  refine w_aloadN X hx (hb hby d1_1) (pc' := 2) rfl rfl rfl ?_
  refine w_iconst (v := 0) X hx (hb hby d1_2) (pc' := 3) rfl rfl ?_
  refine w_aloadN X hx (hb hby d1_3) (pc' := 4) rfl rfl rfl ?_
  refine w_alenI X hx hZ e0 V_x1 (n := (0 : Int32)) rfl (hb hby d1_4) (pc' := 5) rfl ?_
  refine w_callI (argsL := [(.ref x1), (.int (0 : Int32)), (.int (0 : Int32))]) (rest := []) (a := ob) X hx hZ hown e0 (rm2 l Z a0 hw ob x1 (0 : Int32) (0 : Int32) h0 n0 Z0 E_ob g_ob F_input F_position F_end) rfl (hw _ (List.mem_of_getElem? (i := 7) rfl)) (hw _ (List.mem_of_getElem? (i := 8) rfl)) (hw _ (List.mem_of_getElem? (i := 2) rfl)) (hw _ (List.mem_of_getElem? (i := 9) rfl)) (by decide) (by decide) (W := 0) (by decide) (by decide) (by decide) (by rw [hml]; rfl) (lenOf pd_2 rfl) (Nat.le_refl _) rfl (hb hby d1_5) (pc' := 8) rfl (fun T54 L54 v54 X54 hQ54 => ?_)
  obtain ⟨rfl, N54q, K54, F_input_54, F_position_54, F_end_54⟩ := hQ54
  have zn54 : n0 ≤ T54.heap.size := Nat.le_trans Z0 K54.1
  have KP54 := KP0.trans K54 (allS (Or.inl (by simp)) all0)
  have N54 := Fr.app N0 N54q
  have X54 : Stand p l e ({ frames := 2, cells := 0, slots := 0, locals := 37 } : Room) s m _ below meth c T54 _ 0 0 := X54
  show Go p e below s 0 0 (fun v h L => v = none ∧ Fr n0 L ∧ Keep h0 h [ob] ∧ Fld Z h ob "com/example/inwrap/inwrap/DerReader" "input" "[B" (.ref x1) ∧ Fld Z h ob "com/example/inwrap/inwrap/DerReader" "position" "I" (.int (0 : Int32)) ∧ Fld Z h ob "com/example/inwrap/inwrap/DerReader" "end" "I" (.int (0 : Int32))) T54 (mkF m 8 #[.val (.ref ob), .val (.ref x1)] [])
  exact w_retV X54 hx hret hlk (hb hby d1_8) (by decide) (by decide) (by exact ⟨rfl, N54, KP54, F_input_54, F_position_54, F_end_54⟩)
set_option maxRecDepth 65536 in
set_option maxHeartbeats 40000000 in
theorem rm1_4 (l : Launch) (Z : State) (a0 : Array Value) (hw : ∀ d ∈ tables_1, d.before a0 Z = true) (ob : Addr) (x1 : Addr) (h0 : Heap) (n0 : Nat) (Z0 : n0 ≤ h0.size) (E_ob : Exa Z h0 ob "com/example/inwrap/inwrap/DerReader") (g_ob : n0 ≤ ob) (F_input : Fld Z h0 ob "com/example/inwrap/inwrap/DerReader" "input" "[B" .null) (F_position : Fld Z h0 ob "com/example/inwrap/inwrap/DerReader" "position" "I" (.int (0 : Int32))) (F_end : Fld Z h0 ob "com/example/inwrap/inwrap/DerReader" "end" "I" (.int (0 : Int32))) (y0 : Int32) (y1 : Int32) (y2 : Int32) (y3 : Int32) (V_x1 : AI Z h0 x1 .byte [y0, y1, y2, y3]) (nob_x1 : x1 ≠ ob) :
    Con l Z (⟨"com/example/inwrap/inwrap/DerReader", "<init>", "([B)V"⟩ : MethodName) prog_5_method_1_code 2 none ({ frames := 2, cells := 0, slots := 0, locals := 37 } : Room) #[(.ref ob), (.ref x1)] h0 (fun v h L => v = none ∧ Fr n0 L ∧ Keep h0 h [ob] ∧ Fld Z h ob "com/example/inwrap/inwrap/DerReader" "input" "[B" (.ref x1) ∧ Fld Z h ob "com/example/inwrap/inwrap/DerReader" "position" "I" (.int (0 : Int32)) ∧ Fld Z h ob "com/example/inwrap/inwrap/DerReader" "end" "I" (.int (4 : Int32))) := by
  refine Con.of (plainFor_of_name (by first | (simp [plainName, overriddenIn]; done) | decide +kernel)) ?_
  intro p e s m below meth c T X hx hZ hby hml hown hnm hret hlk e0
  rw [ef_1]
  have N0 := Fr.nil n0
  have KP0 := Keep.refl h0 [ob]
  show Go p e below s 0 0 (fun v h L => v = none ∧ Fr n0 L ∧ Keep h0 h [ob] ∧ Fld Z h ob "com/example/inwrap/inwrap/DerReader" "input" "[B" (.ref x1) ∧ Fld Z h ob "com/example/inwrap/inwrap/DerReader" "position" "I" (.int (0 : Int32)) ∧ Fld Z h ob "com/example/inwrap/inwrap/DerReader" "end" "I" (.int (4 : Int32))) T (mkF m 0 #[.val (.ref ob), .val (.ref x1)] [])
  refine w_aloadN X hx (hb hby d1_0) (pc' := 1) rfl rfl rfl ?_
  refine w_aloadN X hx (hb hby d1_1) (pc' := 2) rfl rfl rfl ?_
  refine w_iconst (v := 0) X hx (hb hby d1_2) (pc' := 3) rfl rfl ?_
  refine w_aloadN X hx (hb hby d1_3) (pc' := 4) rfl rfl rfl ?_
  refine w_alenI X hx hZ e0 V_x1 (n := (4 : Int32)) rfl (hb hby d1_4) (pc' := 5) rfl ?_
  refine w_callI (argsL := [(.ref x1), (.int (0 : Int32)), (.int (4 : Int32))]) (rest := []) (a := ob) X hx hZ hown e0 (rm2 l Z a0 hw ob x1 (0 : Int32) (4 : Int32) h0 n0 Z0 E_ob g_ob F_input F_position F_end) rfl (hw _ (List.mem_of_getElem? (i := 7) rfl)) (hw _ (List.mem_of_getElem? (i := 8) rfl)) (hw _ (List.mem_of_getElem? (i := 2) rfl)) (hw _ (List.mem_of_getElem? (i := 9) rfl)) (by decide) (by decide) (W := 0) (by decide) (by decide) (by decide) (by rw [hml]; rfl) (lenOf pd_2 rfl) (Nat.le_refl _) rfl (hb hby d1_5) (pc' := 8) rfl (fun T55 L55 v55 X55 hQ55 => ?_)
  obtain ⟨rfl, N55q, K55, F_input_55, F_position_55, F_end_55⟩ := hQ55
  have zn55 : n0 ≤ T55.heap.size := Nat.le_trans Z0 K55.1
  have KP55 := KP0.trans K55 (allS (Or.inl (by simp)) all0)
  have N55 := Fr.app N0 N55q
  have X55 : Stand p l e ({ frames := 2, cells := 0, slots := 0, locals := 37 } : Room) s m _ below meth c T55 _ 0 0 := X55
  show Go p e below s 0 0 (fun v h L => v = none ∧ Fr n0 L ∧ Keep h0 h [ob] ∧ Fld Z h ob "com/example/inwrap/inwrap/DerReader" "input" "[B" (.ref x1) ∧ Fld Z h ob "com/example/inwrap/inwrap/DerReader" "position" "I" (.int (0 : Int32)) ∧ Fld Z h ob "com/example/inwrap/inwrap/DerReader" "end" "I" (.int (4 : Int32))) T55 (mkF m 8 #[.val (.ref ob), .val (.ref x1)] [])
  exact w_retV X55 hx hret hlk (hb hby d1_8) (by decide) (by decide) (by exact ⟨rfl, N55, KP55, F_input_55, F_position_55, F_end_55⟩)
theorem own_and254 : ∀ n, n < 256 → (n &&& 254) &&& 31 ≠ 31 ∧ (n &&& 254) < 256 := by decide +kernel
theorem own_sm {y : Int32} (h : y.toBitVec.toNat < 2147483648) : y.toInt = (y.toBitVec.toNat : Int) := by
  show y.toBitVec.toInt = _
  rw [BitVec.toInt_eq_toNat_cond, if_pos (by omega)]
theorem own_nn {y : Int32} (h : 0 ≤ y.toInt) : y.toBitVec.toNat < 2147483648 := by
  have h1 : y.toInt = y.toBitVec.toInt := rfl
  rw [h1, BitVec.toInt_eq_toNat_cond] at h
  have := y.toBitVec.isLt
  split at h <;> omega
theorem own_254 {t : Int32} (h : 0 ≤ t.toInt ∧ t.toInt < 256) : 0 ≤ (t &&& 254).toInt ∧ (t &&& 254).toInt < 256 ∧ ((t &&& 254) &&& 31) ≠ 31 := by
  have e1 := own_sm (own_nn h.1)
  have e2 : (t &&& 254).toBitVec.toNat = t.toBitVec.toNat &&& 254 := by simp
  have e3 := own_and254 t.toBitVec.toNat (by omega)
  have e4 := own_sm (y := t &&& 254) (by rw [e2]; omega)
  refine ⟨by omega, by omega, fun q => e3.1 ?_⟩
  have := congrArg (fun z : Int32 => z.toBitVec.toNat) q
  simpa using this
theorem own_nb (x : Int32) : nar .byte (x.toInt8.toInt32) = x.toInt8.toInt32 := by
  show (x.toInt8.toInt32).toInt8.toInt32 = _
  simp
theorem own_b255 (t : Int32) (h0 : 0 ≤ t.toInt) (h1 : t.toInt < 256) : (t.toInt8.toInt32 &&& 255) = t := by
  have e1 : (t.toInt8.toInt32 &&& 255).toInt = t.toInt8.toInt32.toInt % 2 ^ 8 := Jvm.Kit.i32_mask _ 255 (k := 8) (by decide) (by decide)
  have e2 : t.toInt8.toInt32.toInt = t.toInt8.toInt := Int8.toInt_toInt32 _
  have e3 : t.toInt8.toInt = t.toInt.bmod (2 ^ 8) := Int32.toInt_toInt8 t
  apply own_toInt
  rw [e1, e2, e3]
  have e4 : t.toInt.bmod (2 ^ 8) = if t.toInt < 128 then t.toInt else t.toInt - 256 := by
    rw [Int.bmod_def]; simp; omega
  rw [e4]
  split <;> omega
theorem own_tag {x t1 tv : Int32} (ht : t1 = x &&& 255) (hv : tv = (if (t1 &&& 31) = 31 then (t1 &&& 254) else t1)) : ¬ (((tv.toInt8.toInt32 &&& 255) &&& 31) = 31) := by
  have b1 := own_m x 255 (k := 8) (by decide) (by decide)
  rw [← ht] at b1
  have b2 : 0 ≤ (t1 &&& 254).toInt ∧ (t1 &&& 254).toInt < 256 ∧ ((t1 &&& 254) &&& 31) ≠ 31 := own_254 b1
  by_cases c : (t1 &&& 31) = 31
  · rw [if_pos c] at hv
    rw [hv, own_b255 _ b2.1 b2.2.1]
    exact b2.2.2
  · rw [if_neg c] at hv
    rw [hv, own_b255 _ b1.1 b1.2]
    exact c
theorem own_three {x z : Int32} (h : z = (x &&& 2147483647) % 3) : 0 ≤ z.toInt ∧ z.toInt < 3 := by
  have h0 := (own_m x 2147483647 (k := 31) (by decide) (by decide)).1
  have e5 : (3 : Int32).toInt = 3 := by decide
  rw [h, Jvm.Kit.i32_rem_nonneg h0, e5]
  omega
theorem own_l {x z : Int32} (h : z = (x &&& 2147483647) % 3) : (z.toInt8.toInt32 &&& 255) = z := by
  have := own_three h
  exact own_b255 z (by omega) (by omega)
theorem own_cases3 {x z : Int32} (h : z = (x &&& 2147483647) % 3) : z = 0 ∨ z = 1 ∨ z = 2 := by
  have := own_three h
  have e2 : (2 : Int32).toInt = 2 := by decide
  simp only [← Int32.toInt_inj, own_zero, own_one, e2]
  omega
theorem own_af {x z v : Int32} (h : z = (x &&& 2147483647) % 3) (hv : v = (if z = 2 then 1 else 0)) : K4_0 (2 + (z.toInt8.toInt32 &&& 255)) 4 = v := by
  rw [own_l h, hv]
  rcases own_cases3 h with q | q | q <;> rw [q] <;> decide
theorem own_in {x z v : Int32} (h : z = (x &&& 2147483647) % 3) (hv : v = (if z = 0 then 1 else 0)) : K4_0 2 (2 + (z.toInt8.toInt32 &&& 255)) = v := by
  rw [own_l h, hv]
  rcases own_cases3 h with q | q | q <;> rw [q] <;> decide
theorem ef_0 (m : MethodId) (x0 : Int32) (x1 : Int32) (x2 : Int32) (x3 : Int32) (x4 : Int32) : entryFrame m #[(.int x0), (.int x1), (.int x2), (.int x3), (.int x4)] maxLocals = mkF m 0 #[.val (.int x0), .val (.int x1), .val (.int x2), .val (.int x3), .val (.int x4), .unset, .unset, .unset, .unset, .unset, .unset, .unset, .unset] [] := by first | (simp [entryFrame, mkF, argsToLocals, Value.category, maxLocals]; done) | rfl
set_option maxRecDepth 65536 in
set_option maxHeartbeats 40000000 in
theorem rm0 (l : Launch) (Z : State) (a0 : Array Value) (hw : ∀ d ∈ tables_1, d.before a0 Z = true) (x0 : Int32) (x1 : Int32) (x2 : Int32) (x3 : Int32) (x4 : Int32) (h0 : Heap) (n0 : Nat) (Z0 : n0 ≤ h0.size) :
    Con l Z x code maxLocals ret room_1 #[(.int x0), (.int x1), (.int x2), (.int x3), (.int x4)] h0 (QL (some (.int 1)) n0) := by
  refine Con.of (plainFor_of_name (by first | (simp [plainName, overriddenIn]; done) | decide +kernel)) ?_
  intro p e s m below meth c T X hx hZ hby hml hown hnm hret hlk e0
  rw [ef_0]
  have N0 := Fr.nil n0
  show Go p e below s room_1.cells room_1.slots (QL (some (.int 1)) n0) T (mkF m 0 #[.val (.int x0), .val (.int x1), .val (.int x2), .val (.int x3), .val (.int x4), .unset, .unset, .unset, .unset, .unset, .unset, .unset, .unset] [])
  refine w_iloadN X hx (hb hby at_0) (pc' := 1) rfl rfl ?_
  refine w_iconst (v := 3) X hx (hb hby at_1) (pc' := 2) rfl rfl ?_
  refine w_iand X hx (hb hby at_2) (pc' := 3) rfl ?_
  refine w_if_ne X hx (hb hby at_3) (pf := 6) (pt := 24) rfl (by decide) (by decide) (fun hc3 => ?_) (fun hc3 => ?_)
  · refine w_iloadN X hx (hb hby at_24) (pc' := 25) rfl rfl ?_
    refine w_sipush (v := 255) X hx (hb hby at_25) (pc' := 28) rfl rfl ?_
    refine w_iand X hx (hb hby at_28) (pc' := 29) rfl ?_
    refine w_istore (Ls' := #[.val (.int x0), .val (.int x1), .val (.int x2), .val (.int x3), .val (.int x4), .val (.int (x1 &&& (255 : Int32))), .unset, .unset, .unset, .unset, .unset, .unset, .unset]) X hx (hb hby at_29) (pc' := 31) rfl rfl ?_
    obtain ⟨t1, ht1⟩ : ∃ z : Int32, z = (x1 &&& (255 : Int32)) := ⟨_, rfl⟩
    rw [← ht1]
    refine w_iload X hx (hb hby at_31) (pc' := 33) rfl rfl ?_
    refine w_bipush (v := 31) X hx (hb hby at_33) (pc' := 35) rfl rfl ?_
    refine w_iand X hx (hb hby at_35) (pc' := 36) rfl ?_
    refine w_bipush (v := 31) X hx (hb hby at_36) (pc' := 38) rfl rfl ?_
    have J49_57 : ∀ (v56 : Int32), v56 = (if (t1 &&& (31 : Int32)) = (31 : Int32) then (t1 &&& (254 : Int32)) else t1) → Go p e below s room_1.cells room_1.slots (QL (some (.int 1)) n0) T (mkF m 49 #[.val (.int x0), .val (.int x1), .val (.int x2), .val (.int x3), .val (.int x4), .val (.int v56), .unset, .unset, .unset, .unset, .unset, .unset, .unset] []) := by
      intro v56 hv56
      refine w_iloadN X hx (hb hby at_49) (pc' := 50) rfl rfl ?_
      refine w_ldc X hx hZ hown (hw _ (List.mem_of_getElem? (i := 24) rfl)) (hb hby at_50) (pc' := 52) rfl ?_
      refine w_iand X hx (hb hby at_52) (pc' := 53) rfl ?_
      refine w_iconst (v := 3) X hx (hb hby at_53) (pc' := 54) rfl rfl ?_
      refine w_irem X hx (hb hby at_54) (pc' := 55) rfl (by decide) ?_
      refine w_istore (Ls' := #[.val (.int x0), .val (.int x1), .val (.int x2), .val (.int x3), .val (.int x4), .val (.int v56), .val (.int ((x2 &&& (2147483647 : Int32)) % (3 : Int32))), .unset, .unset, .unset, .unset, .unset, .unset]) X hx (hb hby at_55) (pc' := 57) rfl rfl ?_
      obtain ⟨ln, hln⟩ : ∃ z : Int32, z = ((x2 &&& (2147483647 : Int32)) % (3 : Int32)) := ⟨_, rfl⟩
      rw [← hln]
      refine w_iconst (v := 4) X hx (hb hby at_57) (pc' := 58) rfl rfl ?_
      refine w_newB X hx hZ (cap := 4) e0 (hw _ (List.mem_of_getElem? (i := 3) rfl)) (by decide) (by decide) (by decide) (by decide) (by decide) (hb hby at_58) (pc' := 60) rfl (fun T58 h58 b58 X58 e58 E58 q58 V58 => ?_)
      have g_b58 : n0 ≤ b58 := by rw [q58]; exact Z0
      have V58 : AI Z h58 b58 .byte [(0 : Int32), (0 : Int32), (0 : Int32), (0 : Int32)] := V58
      have zn58 : n0 ≤ h58.size := Nat.le_trans Z0 E58.1
      refine w_astore (Ls' := #[.val (.int x0), .val (.int x1), .val (.int x2), .val (.int x3), .val (.int x4), .val (.int v56), .val (.int ln), .val (.ref b58), .unset, .unset, .unset, .unset, .unset]) X58 hx (hb hby at_60) (pc' := 62) rfl rfl rfl ?_
      refine w_aload X58 hx (hb hby at_62) (pc' := 64) rfl rfl rfl ?_
      refine w_iconst (v := 0) X58 hx (hb hby at_64) (pc' := 65) rfl rfl ?_
      refine w_iload X58 hx (hb hby at_65) (pc' := 67) rfl rfl ?_
      refine w_i2b X58 hx (hb hby at_67) (pc' := 68) rfl ?_
      refine w_bastore X58 hx hZ e58 V58 (by decide) (by show _ < 4; decide) (hb hby at_68) (pc' := 69) rfl (fun T59 h59 X59 e59 W59 V59 => ?_)
      have qv59 : (nar .byte v56.toInt8.toInt32) = v56.toInt8.toInt32 := own_nb _
      rw [qv59] at V59
      have V59 : AI Z h59 b58 .byte [v56.toInt8.toInt32, (0 : Int32), (0 : Int32), (0 : Int32)] := V59
      have N59 := Fr.snoc X59 N0 g_b58
      have zn59 : n0 ≤ h59.size := by rw [W59.size]; exact zn58
      refine w_aload X59 hx (hb hby at_69) (pc' := 71) rfl rfl rfl ?_
      refine w_iconst (v := 1) X59 hx (hb hby at_71) (pc' := 72) rfl rfl ?_
      refine w_iload X59 hx (hb hby at_72) (pc' := 74) rfl rfl ?_
      refine w_i2b X59 hx (hb hby at_74) (pc' := 75) rfl ?_
      refine w_bastore X59 hx hZ e59 V59 (by decide) (by show _ < 4; decide) (hb hby at_75) (pc' := 76) rfl (fun T60 h60 X60 e60 W60 V60 => ?_)
      have qv60 : (nar .byte ln.toInt8.toInt32) = ln.toInt8.toInt32 := own_nb _
      rw [qv60] at V60
      have V60 : AI Z h60 b58 .byte [v56.toInt8.toInt32, ln.toInt8.toInt32, (0 : Int32), (0 : Int32)] := V60
      have N60 := Fr.snoc X60 N59 g_b58
      have zn60 : n0 ≤ h60.size := by rw [W60.size]; exact zn59
      refine w_aload X60 hx (hb hby at_76) (pc' := 78) rfl rfl rfl ?_
      refine w_iconst (v := 2) X60 hx (hb hby at_78) (pc' := 79) rfl rfl ?_
      refine w_iloadN X60 hx (hb hby at_79) (pc' := 80) rfl rfl ?_
      refine w_i2b X60 hx (hb hby at_80) (pc' := 81) rfl ?_
      refine w_bastore X60 hx hZ e60 V60 (by decide) (by show _ < 4; decide) (hb hby at_81) (pc' := 82) rfl (fun T61 h61 X61 e61 W61 V61 => ?_)
      have qv61 : (nar .byte x3.toInt8.toInt32) = x3.toInt8.toInt32 := own_nb _
      rw [qv61] at V61
      have V61 : AI Z h61 b58 .byte [v56.toInt8.toInt32, ln.toInt8.toInt32, x3.toInt8.toInt32, (0 : Int32)] := V61
      have N61 := Fr.snoc X61 N60 g_b58
      have zn61 : n0 ≤ h61.size := by rw [W61.size]; exact zn60
      refine w_aload X61 hx (hb hby at_82) (pc' := 84) rfl rfl rfl ?_
      refine w_iconst (v := 3) X61 hx (hb hby at_84) (pc' := 85) rfl rfl ?_
      refine w_iload X61 hx (hb hby at_85) (pc' := 87) rfl rfl ?_
      refine w_i2b X61 hx (hb hby at_87) (pc' := 88) rfl ?_
      refine w_bastore X61 hx hZ e61 V61 (by decide) (by show _ < 4; decide) (hb hby at_88) (pc' := 89) rfl (fun T62 h62 X62 e62 W62 V62 => ?_)
      have qv62 : (nar .byte x4.toInt8.toInt32) = x4.toInt8.toInt32 := own_nb _
      rw [qv62] at V62
      have V62 : AI Z h62 b58 .byte [v56.toInt8.toInt32, ln.toInt8.toInt32, x3.toInt8.toInt32, x4.toInt8.toInt32] := V62
      have N62 := Fr.snoc X62 N61 g_b58
      have zn62 : n0 ≤ h62.size := by rw [W62.size]; exact zn61
      refine w_newO X62 hx hZ hown e62 (hw _ (List.mem_of_getElem? (i := 0) rfl)) (hw _ (List.mem_of_getElem? (i := 1) rfl)) (hw _ (List.mem_of_getElem? (i := 2) rfl)) (hb hby at_89) (by decide) (by decide) (pc' := 92) rfl (fun T63 h63 b63 X63 e63 E63 q63 A63 D63 => ?_)
      have g_b63 : n0 ≤ b63 := by rw [q63]; exact zn62
      have ne_b58_b63 : b58 ≠ b63 := by rw [q63]; exact Nat.ne_of_lt V62.lt
      have F_input_b63 : Fld Z h63 b63 "com/example/inwrap/inwrap/DerReader" "input" "[B" .null := D63 (Or.inr (hw _ (List.mem_of_getElem? (i := 14) rfl))) (ty := (.array .byte)) (by decide)
      have F_position_b63 : Fld Z h63 b63 "com/example/inwrap/inwrap/DerReader" "position" "I" (.int (0 : Int32)) := D63 (Or.inl (hw _ (List.mem_of_getElem? (i := 16) rfl))) (ty := .int) (by decide)
      have F_end_b63 : Fld Z h63 b63 "com/example/inwrap/inwrap/DerReader" "end" "I" (.int (0 : Int32)) := D63 (Or.inr (hw _ (List.mem_of_getElem? (i := 18) rfl))) (ty := .int) (by decide)
      have zn63 : n0 ≤ h63.size := Nat.le_trans zn62 E63.1
      refine w_dup X63 hx (hb hby at_92) (pc' := 93) rfl rfl ?_
      refine w_aload X63 hx (hb hby at_93) (pc' := 95) rfl rfl rfl ?_
      have f65 := V62.ext E63
      refine w_callI (argsL := [(.ref b58)]) (rest := [(.ref b63)]) (a := b63) X63 hx hZ hown e63 (rm1_4 l Z a0 hw b63 b58 h63 n0 zn63 A63 g_b63 F_input_b63 F_position_b63 F_end_b63 v56.toInt8.toInt32 ln.toInt8.toInt32 x3.toInt8.toInt32 x4.toInt8.toInt32 f65 ne_b58_b63) rfl (hw _ (List.mem_of_getElem? (i := 4) rfl)) (hw _ (List.mem_of_getElem? (i := 5) rfl)) (hw _ (List.mem_of_getElem? (i := 2) rfl)) (hw _ (List.mem_of_getElem? (i := 6) rfl)) (by decide) (by decide) (W := 1) (by decide) (by decide) (by decide) (by rw [hml]; rfl) (lenOf pd_3 rfl) (Nat.le_refl _) rfl (hb hby at_95) (pc' := 98) rfl (fun T64 L64 v64 X64 hQ64 => ?_)
      obtain ⟨rfl, N64q, K64, F_input_64, F_position_64, F_end_64⟩ := hQ64
      have zn64 : n0 ≤ T64.heap.size := Nat.le_trans zn63 K64.1
      have N64 := Fr.app N62 N64q
      have X64 : Stand p l e room_1 s m _ below meth c T64 _ 2 7 := X64
      show Go p e below s room_1.cells room_1.slots (QL (some (.int 1)) n0) T64 (mkF m 98 #[.val (.int x0), .val (.int x1), .val (.int x2), .val (.int x3), .val (.int x4), .val (.int v56), .val (.int ln), .val (.ref b58), .unset, .unset, .unset, .unset, .unset] [(.ref b63)])
      refine w_astore (Ls' := #[.val (.int x0), .val (.int x1), .val (.int x2), .val (.int x3), .val (.int x4), .val (.int v56), .val (.int ln), .val (.ref b58), .val (.ref b63), .unset, .unset, .unset, .unset]) X64 hx (hb hby at_98) (pc' := 100) rfl rfl rfl ?_
      refine w_aload X64 hx (hb hby at_100) (pc' := 102) rfl rfl rfl ?_
      have f67 := A63.keep K64
      refine w_callV (argsL := []) (rest := []) (a := b63) X64 hx hZ hown rfl f67 (rm4 l Z a0 hw b63 T64.heap n0 (0 : Int32) (4 : Int32)  F_position_64 F_end_64 ) (hw _ (List.mem_of_getElem? (i := 19) rfl)) (hw _ (List.mem_of_getElem? (i := 20) rfl)) (hw _ (List.mem_of_getElem? (i := 22) rfl)) (hw _ (List.mem_of_getElem? (i := 21) rfl)) (hw _ (List.mem_of_getElem? (i := 2) rfl)) (hw _ (List.mem_of_getElem? (i := 23) rfl)) (by decide) (by decide) (W := 0) (by decide) (by decide) (by decide) (by rw [hml]; rfl) (lenOf pd_0 rfl) (Nat.le_refl _) rfl (hb hby at_102) (pc' := 105) rfl (fun T66 L66 v66 X66 hQ66 => ?_)
      obtain ⟨rfl, N66q, e66⟩ := hQ66
      have N66 := Fr.app N64 N66q
      have X66 : Stand p l e room_1 s m _ below meth c T66 _ 2 7 := X66
      show Go p e below s room_1.cells room_1.slots (QL (some (.int 1)) n0) T66 (mkF m 105 #[.val (.int x0), .val (.int x1), .val (.int x2), .val (.int x3), .val (.int x4), .val (.int v56), .val (.int ln), .val (.ref b58), .val (.ref b63), .unset, .unset, .unset, .unset] [(.int (K4_0 (0 : Int32) (4 : Int32) ))])
      refine w_istore (Ls' := #[.val (.int x0), .val (.int x1), .val (.int x2), .val (.int x3), .val (.int x4), .val (.int v56), .val (.int ln), .val (.ref b58), .val (.ref b63), .val (.int (K4_0 (0 : Int32) (4 : Int32) )), .unset, .unset, .unset]) X66 hx (hb hby at_105) (pc' := 107) rfl rfl ?_
      refine w_aload X66 hx (hb hby at_107) (pc' := 109) rfl rfl rfl ?_
      have f69 := f65.keep K64 (ninS ne_b58_b63 nin0)
      refine w_callV (argsL := []) (rest := []) (a := b63) X66 hx hZ hown e66 f67 (rm5 l Z a0 hw b63 T64.heap n0 zn64 b58 v56.toInt8.toInt32 ln.toInt8.toInt32 x3.toInt8.toInt32 x4.toInt8.toInt32 f67 g_b63 F_input_64 F_position_64 F_end_64 f69 ne_b58_b63 (own_tag ht1 hv56) (by rw [own_l hln]; have := own_three hln; omega)) (hw _ (List.mem_of_getElem? (i := 25) rfl)) (hw _ (List.mem_of_getElem? (i := 26) rfl)) (hw _ (List.mem_of_getElem? (i := 28) rfl)) (hw _ (List.mem_of_getElem? (i := 27) rfl)) (hw _ (List.mem_of_getElem? (i := 2) rfl)) (hw _ (List.mem_of_getElem? (i := 29) rfl)) (by decide) (by decide) (W := 0) (by decide) (by decide) (by decide) (by rw [hml]; rfl) (lenOf pd_4 rfl) (Nat.le_refl _) rfl (hb hby at_109) (pc' := 112) rfl (fun T68 L68 v68 X68 hQ68 => ?_)
      obtain ⟨b68, rfl, N68q, K68, sz68, E68, Finput_68, Fposition_68, Fend_68, Fop_68, Finputo_68, Fendo_68⟩ := hQ68
      have zn68 : n0 ≤ T68.heap.size := Nat.le_trans zn64 K68.1
      have g_b68 : n0 ≤ b68 := Nat.le_trans zn64 sz68
      have ne_b58_b68 : b58 ≠ b68 := Nat.ne_of_lt (Nat.lt_of_lt_of_le f69.lt sz68)
      have ne_b63_b68 : b63 ≠ b68 := Nat.ne_of_lt (Nat.lt_of_lt_of_le f67.lt sz68)
      have N68 := Fr.app N66 N68q
      have X68 : Stand p l e room_1 s m _ below meth c T68 _ 3 10 := X68
      show Go p e below s room_1.cells room_1.slots (QL (some (.int 1)) n0) T68 (mkF m 112 #[.val (.int x0), .val (.int x1), .val (.int x2), .val (.int x3), .val (.int x4), .val (.int v56), .val (.int ln), .val (.ref b58), .val (.ref b63), .val (.int (K4_0 (0 : Int32) (4 : Int32) )), .unset, .unset, .unset] [(.ref b68)])
      refine w_astore (Ls' := #[.val (.int x0), .val (.int x1), .val (.int x2), .val (.int x3), .val (.int x4), .val (.int v56), .val (.int ln), .val (.ref b58), .val (.ref b63), .val (.int (K4_0 (0 : Int32) (4 : Int32) )), .val (.ref b68), .unset, .unset]) X68 hx (hb hby at_112) (pc' := 114) rfl rfl rfl ?_
      refine w_aload X68 hx (hb hby at_114) (pc' := 116) rfl rfl rfl ?_
      have f71 := f67.keep K68
      refine w_callV (argsL := []) (rest := []) (a := b63) X68 hx hZ hown rfl f71 (rm4 l Z a0 hw b63 T68.heap n0 ((2 : Int32) + (ln.toInt8.toInt32 &&& (255 : Int32))) (4 : Int32)  Fop_68 Fendo_68 ) (hw _ (List.mem_of_getElem? (i := 19) rfl)) (hw _ (List.mem_of_getElem? (i := 20) rfl)) (hw _ (List.mem_of_getElem? (i := 22) rfl)) (hw _ (List.mem_of_getElem? (i := 21) rfl)) (hw _ (List.mem_of_getElem? (i := 2) rfl)) (hw _ (List.mem_of_getElem? (i := 23) rfl)) (by decide) (by decide) (W := 0) (by decide) (by decide) (by decide) (by rw [hml]; rfl) (lenOf pd_0 rfl) (Nat.le_refl _) rfl (hb hby at_116) (pc' := 119) rfl (fun T70 L70 v70 X70 hQ70 => ?_)
      obtain ⟨rfl, N70q, e70⟩ := hQ70
      have N70 := Fr.app N68 N70q
      have X70 : Stand p l e room_1 s m _ below meth c T70 _ 3 10 := X70
      show Go p e below s room_1.cells room_1.slots (QL (some (.int 1)) n0) T70 (mkF m 119 #[.val (.int x0), .val (.int x1), .val (.int x2), .val (.int x3), .val (.int x4), .val (.int v56), .val (.int ln), .val (.ref b58), .val (.ref b63), .val (.int (K4_0 (0 : Int32) (4 : Int32) )), .val (.ref b68), .unset, .unset] [(.int (K4_0 ((2 : Int32) + (ln.toInt8.toInt32 &&& (255 : Int32))) (4 : Int32) ))])
      refine w_istore (Ls' := #[.val (.int x0), .val (.int x1), .val (.int x2), .val (.int x3), .val (.int x4), .val (.int v56), .val (.int ln), .val (.ref b58), .val (.ref b63), .val (.int (K4_0 (0 : Int32) (4 : Int32) )), .val (.ref b68), .val (.int (K4_0 ((2 : Int32) + (ln.toInt8.toInt32 &&& (255 : Int32))) (4 : Int32) )), .unset]) X70 hx (hb hby at_119) (pc' := 121) rfl rfl ?_
      refine w_aload X70 hx (hb hby at_121) (pc' := 123) rfl rfl rfl ?_
      refine w_callV (argsL := []) (rest := []) (a := b68) X70 hx hZ hown e70 E68 (rm4 l Z a0 hw b68 T68.heap n0 (2 : Int32) ((2 : Int32) + (ln.toInt8.toInt32 &&& (255 : Int32)))  Fposition_68 Fend_68 ) (hw _ (List.mem_of_getElem? (i := 19) rfl)) (hw _ (List.mem_of_getElem? (i := 20) rfl)) (hw _ (List.mem_of_getElem? (i := 22) rfl)) (hw _ (List.mem_of_getElem? (i := 21) rfl)) (hw _ (List.mem_of_getElem? (i := 2) rfl)) (hw _ (List.mem_of_getElem? (i := 23) rfl)) (by decide) (by decide) (W := 0) (by decide) (by decide) (by decide) (by rw [hml]; rfl) (lenOf pd_0 rfl) (Nat.le_refl _) rfl (hb hby at_123) (pc' := 126) rfl (fun T72 L72 v72 X72 hQ72 => ?_)
      obtain ⟨rfl, N72q, e72⟩ := hQ72
      have N72 := Fr.app N70 N72q
      have X72 : Stand p l e room_1 s m _ below meth c T72 _ 3 10 := X72
      show Go p e below s room_1.cells room_1.slots (QL (some (.int 1)) n0) T72 (mkF m 126 #[.val (.int x0), .val (.int x1), .val (.int x2), .val (.int x3), .val (.int x4), .val (.int v56), .val (.int ln), .val (.ref b58), .val (.ref b63), .val (.int (K4_0 (0 : Int32) (4 : Int32) )), .val (.ref b68), .val (.int (K4_0 ((2 : Int32) + (ln.toInt8.toInt32 &&& (255 : Int32))) (4 : Int32) )), .unset] [(.int (K4_0 (2 : Int32) ((2 : Int32) + (ln.toInt8.toInt32 &&& (255 : Int32))) ))])
      refine w_istore (Ls' := #[.val (.int x0), .val (.int x1), .val (.int x2), .val (.int x3), .val (.int x4), .val (.int v56), .val (.int ln), .val (.ref b58), .val (.ref b63), .val (.int (K4_0 (0 : Int32) (4 : Int32) )), .val (.ref b68), .val (.int (K4_0 ((2 : Int32) + (ln.toInt8.toInt32 &&& (255 : Int32))) (4 : Int32) )), .val (.int (K4_0 (2 : Int32) ((2 : Int32) + (ln.toInt8.toInt32 &&& (255 : Int32))) ))]) X72 hx (hb hby at_126) (pc' := 128) rfl rfl ?_
      refine w_iload X72 hx (hb hby at_128) (pc' := 130) rfl rfl ?_
      have hf130 : (K4_0 (0 : Int32) (4 : Int32) ) = (0 : Int32) := by decide
      refine w_if_ne X72 hx (hb hby at_130) (pf := 133) (pt := 168) rfl (by decide) (by decide) (fun hc => absurd hf130 hc) (fun hc130 => ?_)
      refine w_iload X72 hx (hb hby at_133) (pc' := 135) rfl rfl ?_
      refine w_iload X72 hx (hb hby at_135) (pc' := 137) rfl rfl ?_
      refine w_iconst (v := 2) X72 hx (hb hby at_137) (pc' := 138) rfl rfl ?_
      have J146_74 : ∀ (v73 : Int32), v73 = (if ln = (2 : Int32) then (1 : Int32) else (0 : Int32)) → Go p e below s room_1.cells room_1.slots (QL (some (.int 1)) n0) T72 (mkF m 146 #[.val (.int x0), .val (.int x1), .val (.int x2), .val (.int x3), .val (.int x4), .val (.int v56), .val (.int ln), .val (.ref b58), .val (.ref b63), .val (.int (K4_0 (0 : Int32) (4 : Int32) )), .val (.ref b68), .val (.int (K4_0 ((2 : Int32) + (ln.toInt8.toInt32 &&& (255 : Int32))) (4 : Int32) )), .val (.int (K4_0 (2 : Int32) ((2 : Int32) + (ln.toInt8.toInt32 &&& (255 : Int32))) ))] [(.int v73), (.int (K4_0 ((2 : Int32) + (ln.toInt8.toInt32 &&& (255 : Int32))) (4 : Int32) ))]) := by
        intro v73 hv73
        have hf146 : (K4_0 ((2 : Int32) + (ln.toInt8.toInt32 &&& (255 : Int32))) (4 : Int32) ) = v73 := own_af hln hv73
        refine w_icmp_ne X72 hx (hb hby at_146) (pf := 149) (pt := 168) rfl (by decide) (by decide) (fun hc => absurd hf146 hc) (fun hc146 => ?_)
        refine w_iload X72 hx (hb hby at_149) (pc' := 151) rfl rfl ?_
        refine w_iload X72 hx (hb hby at_151) (pc' := 153) rfl rfl ?_
        have J161_76 : ∀ (v75 : Int32), v75 = (if ln = (0 : Int32) then (1 : Int32) else (0 : Int32)) → Go p e below s room_1.cells room_1.slots (QL (some (.int 1)) n0) T72 (mkF m 161 #[.val (.int x0), .val (.int x1), .val (.int x2), .val (.int x3), .val (.int x4), .val (.int v56), .val (.int ln), .val (.ref b58), .val (.ref b63), .val (.int (K4_0 (0 : Int32) (4 : Int32) )), .val (.ref b68), .val (.int (K4_0 ((2 : Int32) + (ln.toInt8.toInt32 &&& (255 : Int32))) (4 : Int32) )), .val (.int (K4_0 (2 : Int32) ((2 : Int32) + (ln.toInt8.toInt32 &&& (255 : Int32))) ))] [(.int v75), (.int (K4_0 (2 : Int32) ((2 : Int32) + (ln.toInt8.toInt32 &&& (255 : Int32))) ))]) := by
          intro v75 hv75
          have hf161 : (K4_0 (2 : Int32) ((2 : Int32) + (ln.toInt8.toInt32 &&& (255 : Int32))) ) = v75 := own_in hln hv75
          refine w_icmp_ne X72 hx (hb hby at_161) (pf := 164) (pt := 168) rfl (by decide) (by decide) (fun hc => absurd hf161 hc) (fun hc161 => ?_)
          refine w_iconst (v := 1) X72 hx (hb hby at_164) (pc' := 165) rfl rfl ?_
          refine w_goto X72 hx (hb hby at_165) (pc' := 169) (by decide) (by decide) ?_
          exact w_retZ X72 hx hret hlk (hb hby at_169) (by decide) (by decide) ⟨rfl, N72⟩
        refine w_if_ne X72 hx (hb hby at_153) (pf := 156) (pt := 160) rfl (by decide) (by decide) (fun hc153 => ?_) (fun hc153 => ?_)
        · refine w_iconst (v := 0) X72 hx (hb hby at_160) (pc' := 161) rfl rfl ?_
          exact J161_76 ((0 : Int32)) (by rw [if_neg (show ¬ (ln = (0 : Int32)) from (by assumption))])
        · refine w_iconst (v := 1) X72 hx (hb hby at_156) (pc' := 157) rfl rfl ?_
          refine w_goto X72 hx (hb hby at_157) (pc' := 161) (by decide) (by decide) ?_
          exact J161_76 ((1 : Int32)) (by rw [if_pos (show ln = (0 : Int32) from (by assumption))])
      refine w_icmp_ne X72 hx (hb hby at_138) (pf := 141) (pt := 145) rfl (by decide) (by decide) (fun hc138 => ?_) (fun hc138 => ?_)
      · refine w_iconst (v := 0) X72 hx (hb hby at_145) (pc' := 146) rfl rfl ?_
        exact J146_74 ((0 : Int32)) (by rw [if_neg (show ¬ (ln = (2 : Int32)) from (by assumption))])
      · refine w_iconst (v := 1) X72 hx (hb hby at_141) (pc' := 142) rfl rfl ?_
        refine w_goto X72 hx (hb hby at_142) (pc' := 146) (by decide) (by decide) ?_
        exact J146_74 ((1 : Int32)) (by rw [if_pos (show ln = (2 : Int32) from (by assumption))])
    refine w_icmp_ne X hx (hb hby at_38) (pf := 41) (pt := 49) rfl (by decide) (by decide) (fun hc38 => ?_) (fun hc38 => ?_)
    · exact J49_57 (t1) (by rw [if_neg (show ¬ ((t1 &&& (31 : Int32)) = (31 : Int32)) from (by assumption))])
    · refine w_iload X hx (hb hby at_41) (pc' := 43) rfl rfl ?_
      refine w_sipush (v := 254) X hx (hb hby at_43) (pc' := 46) rfl rfl ?_
      refine w_iand X hx (hb hby at_46) (pc' := 47) rfl ?_
      refine w_istore (Ls' := #[.val (.int x0), .val (.int x1), .val (.int x2), .val (.int x3), .val (.int x4), .val (.int (t1 &&& (254 : Int32))), .unset, .unset, .unset, .unset, .unset, .unset, .unset]) X hx (hb hby at_47) (pc' := 49) rfl rfl ?_
      exact J49_57 ((t1 &&& (254 : Int32))) (by rw [if_pos (show (t1 &&& (31 : Int32)) = (31 : Int32) from (by assumption))])
  · refine w_newO X hx hZ hown e0 (hw _ (List.mem_of_getElem? (i := 0) rfl)) (hw _ (List.mem_of_getElem? (i := 1) rfl)) (hw _ (List.mem_of_getElem? (i := 2) rfl)) (hb hby at_6) (by decide) (by decide) (pc' := 9) rfl (fun T77 h77 b77 X77 e77 E77 q77 A77 D77 => ?_)
    have g_b77 : n0 ≤ b77 := by rw [q77]; exact Z0
    have F_input_b77 : Fld Z h77 b77 "com/example/inwrap/inwrap/DerReader" "input" "[B" .null := D77 (Or.inr (hw _ (List.mem_of_getElem? (i := 14) rfl))) (ty := (.array .byte)) (by decide)
    have F_position_b77 : Fld Z h77 b77 "com/example/inwrap/inwrap/DerReader" "position" "I" (.int (0 : Int32)) := D77 (Or.inl (hw _ (List.mem_of_getElem? (i := 16) rfl))) (ty := .int) (by decide)
    have F_end_b77 : Fld Z h77 b77 "com/example/inwrap/inwrap/DerReader" "end" "I" (.int (0 : Int32)) := D77 (Or.inr (hw _ (List.mem_of_getElem? (i := 18) rfl))) (ty := .int) (by decide)
    have zn77 : n0 ≤ h77.size := Nat.le_trans Z0 E77.1
    refine w_dup X77 hx (hb hby at_9) (pc' := 10) rfl rfl ?_
    refine w_iconst (v := 0) X77 hx (hb hby at_10) (pc' := 11) rfl rfl ?_
    refine w_newB X77 hx hZ (cap := 0) e77 (hw _ (List.mem_of_getElem? (i := 3) rfl)) (by decide) (by decide) (by decide) (by decide) (by decide) (hb hby at_11) (pc' := 13) rfl (fun T78 h78 b78 X78 e78 E78 q78 V78 => ?_)
    have g_b78 : n0 ≤ b78 := by rw [q78]; exact zn77
    have ne_b77_b78 : b77 ≠ b78 := by rw [q78]; exact Nat.ne_of_lt A77.lt
    have V78 : AI Z h78 b78 .byte [] := V78
    have zn78 : n0 ≤ h78.size := Nat.le_trans zn77 E78.1
    have f80 := A77.ext E78
    have f81 := F_input_b77.ext E78
    have f82 := F_position_b77.ext E78
    have f83 := F_end_b77.ext E78
    refine w_callI (argsL := [(.ref b78)]) (rest := [(.ref b77)]) (a := b77) X78 hx hZ hown e78 (rm1_0 l Z a0 hw b77 b78 h78 n0 zn78 f80 g_b77 f81 f82 f83 V78 (Ne.symm ne_b77_b78)) rfl (hw _ (List.mem_of_getElem? (i := 4) rfl)) (hw _ (List.mem_of_getElem? (i := 5) rfl)) (hw _ (List.mem_of_getElem? (i := 2) rfl)) (hw _ (List.mem_of_getElem? (i := 6) rfl)) (by decide) (by decide) (W := 1) (by decide) (by decide) (by decide) (by rw [hml]; rfl) (lenOf pd_3 rfl) (Nat.le_refl _) rfl (hb hby at_13) (pc' := 16) rfl (fun T79 L79 v79 X79 hQ79 => ?_)
    obtain ⟨rfl, N79q, K79, F_input_79, F_position_79, F_end_79⟩ := hQ79
    have zn79 : n0 ≤ T79.heap.size := Nat.le_trans zn78 K79.1
    have N79 := Fr.app N0 N79q
    have X79 : Stand p l e room_1 s m _ below meth c T79 _ 2 3 := X79
    show Go p e below s room_1.cells room_1.slots (QL (some (.int 1)) n0) T79 (mkF m 16 #[.val (.int x0), .val (.int x1), .val (.int x2), .val (.int x3), .val (.int x4), .unset, .unset, .unset, .unset, .unset, .unset, .unset, .unset] [(.ref b77)])
    refine w_astore (Ls' := #[.val (.int x0), .val (.int x1), .val (.int x2), .val (.int x3), .val (.int x4), .val (.ref b77), .unset, .unset, .unset, .unset, .unset, .unset, .unset]) X79 hx (hb hby at_16) (pc' := 18) rfl rfl rfl ?_
    refine w_aload X79 hx (hb hby at_18) (pc' := 20) rfl rfl rfl ?_
    have f85 := f80.keep K79
    refine w_callV (argsL := []) (rest := []) (a := b77) X79 hx hZ hown rfl f85 (rm4 l Z a0 hw b77 T79.heap n0 (0 : Int32) (0 : Int32)  F_position_79 F_end_79 ) (hw _ (List.mem_of_getElem? (i := 19) rfl)) (hw _ (List.mem_of_getElem? (i := 20) rfl)) (hw _ (List.mem_of_getElem? (i := 22) rfl)) (hw _ (List.mem_of_getElem? (i := 21) rfl)) (hw _ (List.mem_of_getElem? (i := 2) rfl)) (hw _ (List.mem_of_getElem? (i := 23) rfl)) (by decide) (by decide) (W := 0) (by decide) (by decide) (by decide) (by rw [hml]; rfl) (lenOf pd_0 rfl) (Nat.le_refl _) rfl (hb hby at_20) (pc' := 23) rfl (fun T84 L84 v84 X84 hQ84 => ?_)
    obtain ⟨rfl, N84q, e84⟩ := hQ84
    have N84 := Fr.app N79 N84q
    have X84 : Stand p l e room_1 s m _ below meth c T84 _ 2 3 := X84
    show Go p e below s room_1.cells room_1.slots (QL (some (.int 1)) n0) T84 (mkF m 23 #[.val (.int x0), .val (.int x1), .val (.int x2), .val (.int x3), .val (.int x4), .val (.ref b77), .unset, .unset, .unset, .unset, .unset, .unset, .unset] [(.int (K4_0 (0 : Int32) (0 : Int32) ))])
    exact w_retZ X84 hx hret hlk (hb hby at_23) (by decide) (by decide) ⟨rfl, N84⟩
set_option maxRecDepth 65536 in
set_option maxHeartbeats 40000000 in
theorem comes_1 {Post : Tables → Env → Array Value → State → Outcome → State → Prop} (hpost : ∀ tb e args s v u, (limb_1_1.after args s (.returned v) u = true ∧ limb_1_2.after args s (.returned v) u = true ∧ True) → FrameEnd s (.returned v) u (Jvm.fieldLocs frame_1_writes args s ++ Jvm.arrayLocs frame_1_arrays args s ++ Jvm.staticLocs frame_1_statics s) 16 128 → Post tb e args s (.returned v) u) :
    ArmFor flags0 classFile x code maxLocals ret World_1 tables_1 room_1 Calls_1 rest_1 Pre_1 Post := by
  intro l hfl _ _ p e ha hc hk s m args below hf hA hF happ hP
  obtain ⟨hcalls, hrest, hpre⟩ := hP
  obtain ⟨-, -, -, hnamed, -, -, -, hat⟩ := (Spec.applies_iff hf).mp happ
  obtain ⟨hg, hn⟩ := and_e (Cond.before_iff.mp (show (Jvm.Cond.and given_1 narrow_1).before args s = true from hpre))
  obtain ⟨g1, g2⟩ := and_e hg
  obtain ⟨g3, g4⟩ := and_e g2
  obtain ⟨g5, g6⟩ := and_e g4
  obtain ⟨g7, g8⟩ := and_e g6
  obtain ⟨g9, g10⟩ := and_e g8
  obtain ⟨w0, w1, w2, w3, w4, rfl⟩ : ∃ w0 w1 w2 w3 w4 : Value, args = #[w0, w1, w2, w3, w4] := by
    have hs : args.size = 5 := by simpa [Cond.value, given_1] using g1
    obtain ⟨L⟩ := args
    match L, hs with
    | [w0, w1, w2, w3, w4], _ => exact ⟨w0, w1, w2, w3, w4, rfl⟩
  have hw := fun d (hd : d ∈ tables_1) => atoms_spec (ws := Jvm.Cond.code x code maxLocals ret :: tables_1) hat d (List.mem_cons_of_mem _ hd)
  obtain ⟨i0, ei0⟩ := is_v g3
  obtain rfl : w0 = (.int i0) := Option.some.inj ei0
  obtain ⟨i1, ei1⟩ := is_v g5
  obtain rfl : w1 = (.int i1) := Option.some.inj ei1
  obtain ⟨i2, ei2⟩ := is_v g7
  obtain rfl : w2 = (.int i2) := Option.some.inj ei2
  obtain ⟨i3, ei3⟩ := is_v g9
  obtain rfl : w3 = (.int i3) := Option.some.inj ei3
  obtain ⟨i4, ei4⟩ := is_v g10
  obtain rfl : w4 = (.int i4) := Option.some.inj ei4
  have C := rm0 l s _ hw i0 i1 i2 i3 i4 s.heap s.heap.size (Nat.le_refl _)
  obtain ⟨n, o, h1, h2, h3, v, L, rfl, ⟨rfl, N⟩, hq⟩ := C tables_1 p e ha hc hk s m _ below hf ((Spec.applies_iff_loose hf).mp happ).1 ⟨rfl, State.Warmed39.refl s, rfl⟩ trivial
  refine ⟨n, _, h1, h2, h3, hpost _ _ _ _ _ _ ⟨Cond.after_iff.mpr rfl, Cond.after_iff.mpr (eq_i res_at (Term.int_eval (1)) rfl), trivial⟩ ⟨hq.1, hq.2.1, (hq.2.2.sift fun y hy => Or.inr (N y hy)).mono (by decide) (by decide)⟩⟩
theorem main_1_1 : Claimed_1_1 := comes_1 fun _ _ _ _ _ _ h hF => ⟨h.1, hF⟩
theorem main_1_2 : Claimed_1_2 := comes_1 fun _ _ _ _ _ _ h hF => ⟨h.2.1, hF⟩
end Jvm.Pilot.@@N@@
namespace Jvm.Pilot.@@N@@
open Jvm Jvm.ClassFile Sem Op Lib Jvm.Free Jvm.Stand Jvm.Pilot.@@N@@.Jvm.D
/-! MADE BY PROGRAM (witnessworld.py) out of the Statement's table words and the real class files: 9 classes; the members and pool entries that the words name. The judged class is class 1, her method 1. -/
namespace start1
open Jvm.ClassFile
def u (s : String) : CpInfo := .utf8 (stringToUtf16 s)
/-- a pool by its gaps: so many unusable entries, then the entry; so many at the end -/
def gap : Nat → List CpInfo → List CpInfo
  | 0, r => r
  | n + 1, r => .unusable :: gap n r
def poolList (es : List (Nat × CpInfo)) (last : Nat) : List CpInfo := es.foldr (fun e r => gap e.1 (e.2 :: r)) (gap last [])
def pool (es : List (Nat × CpInfo)) (last : Nat) : Array CpInfo := ⟨poolList es last⟩
def fileOf (pool : Array CpInfo) (this : Nat) (attrs : Array Attribute := #[]) (ms : Array MethodInfo := #[]) (fl : Nat := 33) (sup : Nat := 0) (ifs : Array Nat := #[]) (fds : Array FieldInfo := #[]) : ClassFile where
  minorVersion := 0
  majorVersion := 65
  constantPool := pool
  accessFlags := fl
  thisClass := this
  superClass := sup
  interfaces := ifs
  fields := fds
  methods := ms
  attributes := attrs
def plain (name : String) (sup : Option ClassId) : Class where
  name := name
  kind := .ordinary
  loader := none
  accessFlags := 33
  super := sup
  interfaces := #[]
  cf := none
  fields := #[]
  methods := #[]
  instanceTypes := #[]
  staticTypes := #[]
  resolved := #[]
  callSites := []
  init := .initialized
  statics := none
  mirror := none

def pool0 : Array CpInfo := pool [(5, u "<init>"), (0, u "()V"), (1, .class_ 10), (1, u "java/lang/Object")] 113

def k0c0 : Code := { maxStack := 0, maxLocals := 1, code := object_method_1_code, exceptionTable := #[], attributes := #[] }
def k0m0 : Method := { name := "<init>", desc := "()V", sig := { parameters := [], returnType := none }, accessFlags := 1, code := some k0c0 }
/-- java/lang/Object -/
def k0 : Class := { plain "java/lang/Object" none with
  accessFlags := 33
  interfaces := #[]
  cf := some (fileOf pool0 8 #[] #[{ accessFlags := 1, nameIndex := 5, descriptorIndex := 6, attributes := #[] }] 33 0 #[] #[])
  fields := #[]
  methods := #[k0m0]
  instanceTypes := #[]
  staticTypes := #[]
  resolved := Array.replicate 124 none
  statics := none }

def pool1 : Array CpInfo := pool [(2, .class_ 4), (1, u "java/lang/Object"), (0, u "<init>"), (0, u "()V"), (0, .class_ 8), (0, u "com/example/inwrap/inwrap/DerReader"), (0, .methodref 7 10), (0, .nameAndType 5 11), (0, u "([B)V"), (0, .methodref 7 13), (0, .nameAndType 14 15), (0, u "atEnd"), (0, u "()Z"), (0, .integer 2147483647), (0, .methodref 7 18), (0, .nameAndType 19 20), (0, u "readAny"), (0, u "()Lcom/example/inwrap/inwrap/DerReader;"), (0, .class_ 22), (0, u "com/example/inwrap/inwrap/DerReaderAtEndPinLaw"), (2, u "law"), (0, u "(IIIII)Z")] 5

def k1m0 : Method := { name := "<init>", desc := "()V", sig := { parameters := [], returnType := none }, accessFlags := 1, code := none }
def k1c1 : Code := { maxStack := 3, maxLocals := 13, code := code, exceptionTable := #[], attributes := #[] }
def k1m1 : Method := { name := "law", desc := "(IIIII)Z", sig := { parameters := [.int, .int, .int, .int, .int], returnType := some .boolean }, accessFlags := 9, code := some k1c1 }
/-- com/example/inwrap/inwrap/DerReaderAtEndPinLaw -/
def k1 : Class := { plain "com/example/inwrap/inwrap/DerReaderAtEndPinLaw" (some 0) with
  accessFlags := 49
  interfaces := #[]
  cf := some (fileOf pool1 21 #[] #[{ accessFlags := 1, nameIndex := 5, descriptorIndex := 6, attributes := #[] }, { accessFlags := 9, nameIndex := 25, descriptorIndex := 26, attributes := #[] }] 49 2 #[] #[])
  fields := #[]
  methods := #[k1m0, k1m1]
  instanceTypes := #[]
  staticTypes := #[]
  resolved := Array.replicate 32 none
  statics := none }

def pool2 : Array CpInfo := pool [(1, .methodref 2 3), (0, .class_ 4), (0, .nameAndType 5 6), (0, u "com/example/inwrap/inwrap/DerReader"), (0, u "<init>"), (0, u "([BII)V"), (0, .methodref 8 9), (0, .class_ 10), (0, .nameAndType 5 11), (0, u "java/lang/Object"), (0, u "()V"), (0, .fieldref 2 13), (0, .nameAndType 14 15), (0, u "input"), (0, u "[B"), (0, .fieldref 2 17), (0, .nameAndType 18 19), (0, u "position"), (0, u "I"), (0, .fieldref 2 21), (0, .nameAndType 22 19), (0, u "end"), (0, .methodref 2 24), (0, .nameAndType 25 26), (0, u "atEnd"), (0, u "()Z"), (9, .methodref 2 37), (0, .nameAndType 38 39), (0, u "peekTag"), (0, u "()I"), (8, u "readAny"), (0, u "()Lcom/example/inwrap/inwrap/DerReader;"), (6, .long 128), (20, u "NAMES"), (0, u "Ljava/util/Map;"), (50, u "BOOLEAN"), (2, u "INTEGER"), (1, u "OCTET_STRING"), (1, u "OBJECT_IDENTIFIER"), (1, u "UTF8_STRING"), (1, u "UTC_TIME"), (1, u "GENERALIZED_TIME"), (1, u "SEQUENCE"), (1, u "CONTEXT_0"), (1, u "HIGH_TAG_NUMBER"), (1, u "MAX_LENGTH_BYTES"), (2, u "([B)V")] 42

def k2c0 : Code := { maxStack := 4, maxLocals := 2, code := prog_5_method_1_code, exceptionTable := #[], attributes := #[] }
def k2m0 : Method := { name := "<init>", desc := "([B)V", sig := { parameters := [(.array .byte)], returnType := none }, accessFlags := 0, code := some k2c0 }
def k2c1 : Code := { maxStack := 2, maxLocals := 4, code := prog_5_method_2_code, exceptionTable := #[], attributes := #[] }
def k2m1 : Method := { name := "<init>", desc := "([BII)V", sig := { parameters := [(.array .byte), .int, .int], returnType := none }, accessFlags := 2, code := some k2c1 }
def k2c2 : Code := { maxStack := 2, maxLocals := 1, code := prog_5_method_3_code, exceptionTable := #[], attributes := #[] }
def k2m2 : Method := { name := "atEnd", desc := "()Z", sig := { parameters := [], returnType := some .boolean }, accessFlags := 0, code := some k2c2 }
def k2c3 : Code := { maxStack := 3, maxLocals := 1, code := prog_5_method_4_code, exceptionTable := #[], attributes := #[] }
def k2m3 : Method := { name := "peekTag", desc := "()I", sig := { parameters := [], returnType := some .int }, accessFlags := 0, code := some k2c3 }
def k2c4 : Code := { maxStack := 7, maxLocals := 8, code := prog_5_method_6_code, exceptionTable := #[], attributes := #[] }
def k2m4 : Method := { name := "readAny", desc := "()Lcom/example/inwrap/inwrap/DerReader;", sig := { parameters := [], returnType := some (.object "com/example/inwrap/inwrap/DerReader") }, accessFlags := 0, code := some k2c4 }
/-- com/example/inwrap/inwrap/DerReader -/
def k2 : Class := { plain "com/example/inwrap/inwrap/DerReader" (some 0) with
  accessFlags := 48
  interfaces := #[]
  cf := some (fileOf pool2 2 #[] #[{ accessFlags := 0, nameIndex := 5, descriptorIndex := 153, attributes := #[] }, { accessFlags := 2, nameIndex := 5, descriptorIndex := 6, attributes := #[] }, { accessFlags := 0, nameIndex := 25, descriptorIndex := 26, attributes := #[] }, { accessFlags := 0, nameIndex := 38, descriptorIndex := 39, attributes := #[] }, { accessFlags := 0, nameIndex := 48, descriptorIndex := 49, attributes := #[] }] 48 8 #[] #[{ accessFlags := 24, nameIndex := 129, descriptorIndex := 19, attributes := #[] }, { accessFlags := 24, nameIndex := 132, descriptorIndex := 19, attributes := #[] }, { accessFlags := 24, nameIndex := 134, descriptorIndex := 19, attributes := #[] }, { accessFlags := 24, nameIndex := 136, descriptorIndex := 19, attributes := #[] }, { accessFlags := 24, nameIndex := 138, descriptorIndex := 19, attributes := #[] }, { accessFlags := 24, nameIndex := 140, descriptorIndex := 19, attributes := #[] }, { accessFlags := 24, nameIndex := 142, descriptorIndex := 19, attributes := #[] }, { accessFlags := 24, nameIndex := 144, descriptorIndex := 19, attributes := #[] }, { accessFlags := 24, nameIndex := 146, descriptorIndex := 19, attributes := #[] }, { accessFlags := 26, nameIndex := 148, descriptorIndex := 19, attributes := #[] }, { accessFlags := 26, nameIndex := 150, descriptorIndex := 19, attributes := #[] }, { accessFlags := 26, nameIndex := 77, descriptorIndex := 78, attributes := #[] }, { accessFlags := 18, nameIndex := 14, descriptorIndex := 15, attributes := #[] }, { accessFlags := 18, nameIndex := 22, descriptorIndex := 19, attributes := #[] }, { accessFlags := 2, nameIndex := 18, descriptorIndex := 19, attributes := #[] }])
  fields := #[{ name := "BOOLEAN", type := .int, accessFlags := 24, slot := 0, constantValue := 0 }, { name := "INTEGER", type := .int, accessFlags := 24, slot := 1, constantValue := 0 }, { name := "OCTET_STRING", type := .int, accessFlags := 24, slot := 2, constantValue := 0 }, { name := "OBJECT_IDENTIFIER", type := .int, accessFlags := 24, slot := 3, constantValue := 0 }, { name := "UTF8_STRING", type := .int, accessFlags := 24, slot := 4, constantValue := 0 }, { name := "UTC_TIME", type := .int, accessFlags := 24, slot := 5, constantValue := 0 }, { name := "GENERALIZED_TIME", type := .int, accessFlags := 24, slot := 6, constantValue := 0 }, { name := "SEQUENCE", type := .int, accessFlags := 24, slot := 7, constantValue := 0 }, { name := "CONTEXT_0", type := .int, accessFlags := 24, slot := 8, constantValue := 0 }, { name := "HIGH_TAG_NUMBER", type := .int, accessFlags := 26, slot := 9, constantValue := 0 }, { name := "MAX_LENGTH_BYTES", type := .int, accessFlags := 26, slot := 10, constantValue := 0 }, { name := "NAMES", type := (.object "java/util/Map"), accessFlags := 26, slot := 11, constantValue := 0 }, { name := "input", type := (.array .byte), accessFlags := 18, slot := 0, constantValue := 0 }, { name := "end", type := .int, accessFlags := 18, slot := 1, constantValue := 0 }, { name := "position", type := .int, accessFlags := 2, slot := 2, constantValue := 0 }]
  methods := #[k2m0, k2m1, k2m2, k2m3, k2m4]
  instanceTypes := #[(.array .byte), .int, .int]
  staticTypes := #[.int, .int, .int, .int, .int, .int, .int, .int, .int, .int, .int, (.object "java/util/Map")]
  resolved := Array.replicate 196 none
  statics := none }

def pool3 : Array CpInfo := pool [(1, u "java/lang/Cloneable"), (0, .class_ 1), (0, u "java/lang/Object"), (0, .class_ 3)] 3

/-- java/lang/Cloneable -/
def k3 : Class := { plain "java/lang/Cloneable" (some 0) with
  accessFlags := 1537
  interfaces := #[]
  cf := some (fileOf pool3 2 #[] #[] 1537 4 #[] #[])
  fields := #[]
  methods := #[]
  instanceTypes := #[]
  staticTypes := #[]
  resolved := Array.replicate 8 none
  statics := none }

def pool4 : Array CpInfo := pool [(1, u "java/io/Serializable"), (0, .class_ 1), (0, u "java/lang/Object"), (0, .class_ 3)] 3

/-- java/io/Serializable -/
def k4 : Class := { plain "java/io/Serializable" (some 0) with
  accessFlags := 1537
  interfaces := #[]
  cf := some (fileOf pool4 2 #[] #[] 1537 4 #[] #[])
  fields := #[]
  methods := #[]
  instanceTypes := #[]
  staticTypes := #[]
  resolved := Array.replicate 8 none
  statics := none }

/-- the primitive byte -/
def k5 : Class := { plain "byte" none with kind := .primitive 'B', accessFlags := 0x411 }
/-- [B -/
def k6 : Class := { plain "[B" (some 0) with kind := .array 5 .byte, interfaces := #[3, 4], accessFlags := 1041 }

/-- the primitive int -/
def k7 : Class := { plain "int" none with kind := .primitive 'I', accessFlags := 0x411 }
/-- [I -/
def k8 : Class := { plain "[I" (some 0) with kind := .array 7 .int, interfaces := #[3, 4], accessFlags := 1041 }

def heap : Heap := #[]
def classes : Array Class := #[k0, k1, k2, k3, k4, k5, k6, k7, k8]
def interned : List (Array UInt16 × Addr) := []
def slotsUsed : Nat := 0
def theMethod : MethodId := ⟨1, 1⟩
def args0 : Array Value := #[.int 3, .int 4, .int 5, .int 6, .int 7]
def aboutOver (below : List Frame) : State where
  vm := { classes := classes, interned := interned.toArray }
  heap := heap
  slotsUsed := slotsUsed
  threads := #[{ frames := .invoking theMethod args0 :: below }]
def below0 : List Frame := [.native { method := ⟨0, 0⟩, args := #[] }]
def about1 : State := aboutOver below0
def p0 : Program := .bare "" "" ""
def e0 : Env := launch0.env 0 0 0
theorem w_frames : about1.frames = Frame.invoking theMethod args0 :: below0 := rfl
set_option maxRecDepth 65536 in
theorem w_args : argsFit about1.vm theMethod args0 = true := by decide +kernel
set_option maxRecDepth 65536 in
theorem w_heap : heapFits about1 = true := by decide +kernel
set_option maxRecDepth 65536 in
theorem w_runnable : about1.curStatus? = some .runnable := by decide +kernel
set_option maxRecDepth 65536 in
theorem w_alone : about1.alone = true := by decide +kernel
set_option maxRecDepth 65536 in
theorem w_named : about1.methodNamed? x = some theMethod := by decide +kernel
set_option maxRecDepth 65536 in
theorem w_hears : about1.hears theMethod below0 = true := by decide +kernel
set_option maxRecDepth 65536 in
theorem w_ripe : about1.ripe theMethod args0 below0 = true := by decide +kernel
theorem w_running : about1.status = .running := rfl
set_option maxRecDepth 65536 in
theorem w_room : about1.hasRoom e0.platform room_1 = true :=
  launch0.hasRoom_least _ room_1 (by decide +kernel) (by decide +kernel) (by decide +kernel) (by decide +kernel) (by decide +kernel) (by decide +kernel)
theorem allAtoms_all (ts : List Jvm.Cond) (a : Array Jvm.Value) (st : Jvm.State) : (allAtoms ts).before a st = ts.all (fun c => c.before a st) := by
  induction ts with
  | nil => rfl
  | cons c t ih =>
    show (Jvm.Cond.and c (allAtoms t)).before a st = _
    rw [Jvm.Cond.before_and, ih, List.all_cons]
def words1 : List Jvm.Cond := Jvm.Cond.code x code maxLocals ret :: tables_1
/-- a 'code' word, met by the world's own term for the bytes: nothing is compared byte by byte -/
theorem code_word {y : MethodName} {bytes : ByteArray} {mx : Nat} {rt : Option FieldType} {a : Array Value} {s : State} {m : MethodId} {meth : Method} {c : Code} (h1 : s.methodNamed? y = some m) (h2 : s.vm.method? m = some meth) (h3 : meth.code = some c) (h4 : c.code = bytes)
    (h5 : (c.maxLocals == mx && c.exceptionTable.isEmpty && decide (c.maxStack ≤ mostOperands) && decide (meth.sig.returnType = rt) && !meth.locks && decide (parseMethodDescriptor y.desc = some meth.sig)) = true) : (Jvm.Cond.code y bytes mx rt).before a s = true := by
  simp only [Bool.and_eq_true, beq_iff_eq, Bool.not_eq_true', decide_eq_true_eq] at h5
  obtain ⟨⟨⟨⟨⟨g1, g2⟩, g3⟩, g4⟩, g5⟩, g6⟩ := h5
  simp [Cond.before, Cond.holds, Cond.value, h1, h2, h3, h4, g1, g2, g3, g4, g5, g6]
def isCode : Jvm.Cond → Bool
  | .code _ _ _ _ => true
  | _ => false
theorem all_split {L : List Jvm.Cond} {P : Jvm.Cond → Bool} (h1 : L.all (fun c => isCode c || P c) = true) (h2 : ∀ c ∈ L.filter isCode, P c = true) : L.all P = true := by
  refine List.all_eq_true.mpr fun c hc => ?_
  have h := List.all_eq_true.mp h1 c hc
  rcases Bool.eq_false_or_eq_true (isCode c) with hi | hi
  · exact h2 c (List.mem_filter.mpr ⟨hc, hi⟩)
  · simpa [hi] using h
set_option maxRecDepth 65536 in
theorem w_c0 : (Jvm.Cond.code x code maxLocals ret).before args0 about1 = true := code_word (m := ⟨1, 1⟩) (meth := k1m1) (c := k1c1) (by decide +kernel) rfl rfl rfl (by decide +kernel)
set_option maxRecDepth 65536 in
theorem w_c1 : (Jvm.Cond.code ({ cls := "com/example/inwrap/inwrap/DerReader", name := "<init>", desc := "([B)V" } : Jvm.MethodName) prog_5_method_1_code (2 : Nat) (Option.none : Option Jvm.ClassFile.FieldType)).before args0 about1 = true := code_word (m := ⟨2, 0⟩) (meth := k2m0) (c := k2c0) (by decide +kernel) rfl rfl rfl (by decide +kernel)
set_option maxRecDepth 65536 in
theorem w_c2 : (Jvm.Cond.code ({ cls := "com/example/inwrap/inwrap/DerReader", name := "<init>", desc := "([BII)V" } : Jvm.MethodName) prog_5_method_2_code (4 : Nat) (Option.none : Option Jvm.ClassFile.FieldType)).before args0 about1 = true := code_word (m := ⟨2, 1⟩) (meth := k2m1) (c := k2c1) (by decide +kernel) rfl rfl rfl (by decide +kernel)
set_option maxRecDepth 65536 in
theorem w_c3 : (Jvm.Cond.code ({ cls := "java/lang/Object", name := "<init>", desc := "()V" } : Jvm.MethodName) object_method_1_code (1 : Nat) (Option.none : Option Jvm.ClassFile.FieldType)).before args0 about1 = true := code_word (m := ⟨0, 0⟩) (meth := k0m0) (c := k0c0) (by decide +kernel) rfl rfl rfl (by decide +kernel)
set_option maxRecDepth 65536 in
theorem w_c4 : (Jvm.Cond.code ({ cls := "com/example/inwrap/inwrap/DerReader", name := "atEnd", desc := "()Z" } : Jvm.MethodName) prog_5_method_3_code (1 : Nat) (Option.some Jvm.ClassFile.FieldType.boolean)).before args0 about1 = true := code_word (m := ⟨2, 2⟩) (meth := k2m2) (c := k2c2) (by decide +kernel) rfl rfl rfl (by decide +kernel)
set_option maxRecDepth 65536 in
theorem w_c5 : (Jvm.Cond.code ({ cls := "com/example/inwrap/inwrap/DerReader", name := "readAny", desc := "()Lcom/example/inwrap/inwrap/DerReader;" } : Jvm.MethodName) prog_5_method_6_code (8 : Nat) (Option.some (Jvm.ClassFile.FieldType.object "com/example/inwrap/inwrap/DerReader"))).before args0 about1 = true := code_word (m := ⟨2, 4⟩) (meth := k2m4) (c := k2c4) (by decide +kernel) rfl rfl rfl (by decide +kernel)
set_option maxRecDepth 65536 in
theorem w_c6 : (Jvm.Cond.code ({ cls := "com/example/inwrap/inwrap/DerReader", name := "peekTag", desc := "()I" } : Jvm.MethodName) prog_5_method_4_code (1 : Nat) (Option.some Jvm.ClassFile.FieldType.int)).before args0 about1 = true := code_word (m := ⟨2, 3⟩) (meth := k2m3) (c := k2c3) (by decide +kernel) rfl rfl rfl (by decide +kernel)
def codes1 : List Jvm.Cond := [Jvm.Cond.code x code maxLocals ret, Jvm.Cond.code ({ cls := "com/example/inwrap/inwrap/DerReader", name := "<init>", desc := "([B)V" } : Jvm.MethodName) prog_5_method_1_code (2 : Nat) (Option.none : Option Jvm.ClassFile.FieldType), Jvm.Cond.code ({ cls := "com/example/inwrap/inwrap/DerReader", name := "<init>", desc := "([BII)V" } : Jvm.MethodName) prog_5_method_2_code (4 : Nat) (Option.none : Option Jvm.ClassFile.FieldType), Jvm.Cond.code ({ cls := "java/lang/Object", name := "<init>", desc := "()V" } : Jvm.MethodName) object_method_1_code (1 : Nat) (Option.none : Option Jvm.ClassFile.FieldType), Jvm.Cond.code ({ cls := "com/example/inwrap/inwrap/DerReader", name := "atEnd", desc := "()Z" } : Jvm.MethodName) prog_5_method_3_code (1 : Nat) (Option.some Jvm.ClassFile.FieldType.boolean), Jvm.Cond.code ({ cls := "com/example/inwrap/inwrap/DerReader", name := "readAny", desc := "()Lcom/example/inwrap/inwrap/DerReader;" } : Jvm.MethodName) prog_5_method_6_code (8 : Nat) (Option.some (Jvm.ClassFile.FieldType.object "com/example/inwrap/inwrap/DerReader")), Jvm.Cond.code ({ cls := "com/example/inwrap/inwrap/DerReader", name := "peekTag", desc := "()I" } : Jvm.MethodName) prog_5_method_4_code (1 : Nat) (Option.some Jvm.ClassFile.FieldType.int)]
set_option maxRecDepth 65536 in
theorem codes_eq : words1.filter isCode = codes1 := rfl
theorem w_codes : ∀ c ∈ words1.filter isCode, c.before args0 about1 = true := by
  rw [codes_eq]
  intro c hc
  simp only [codes1, List.mem_cons, List.not_mem_nil, or_false] at hc
  rcases hc with rfl | rfl | rfl | rfl | rfl | rfl | rfl
  · exact w_c0
  · exact w_c1
  · exact w_c2
  · exact w_c3
  · exact w_c4
  · exact w_c5
  · exact w_c6
set_option maxRecDepth 65536 in
theorem w_t1 : (words1.take 24).all (fun c => isCode c || c.before args0 about1) = true := by decide +kernel
set_option maxRecDepth 65536 in
theorem w_t2 : (words1.drop 24).all (fun c => isCode c || c.before args0 about1) = true := by decide +kernel
theorem w_tables : (allAtoms (Jvm.Cond.code x code maxLocals ret :: tables_1)).before args0 about1 = true := by
  rw [allAtoms_all]
  show words1.all (fun c => c.before args0 about1) = true
  refine all_split ?_ w_codes
  rw [← List.take_append_drop 24 words1, List.all_append, w_t1, w_t2]
  rfl
set_option maxRecDepth 65536 in
theorem w_case : (Jvm.Cond.and given_1 narrow_1).before args0 about1 = true := by decide +kernel
theorem w_applies : (headSpec (Jvm.Cond.code x code maxLocals ret :: tables_1) room_1).applies x e0.platform about1 = true :=
  (Spec.applies_iff w_frames).mpr ⟨w_running, w_runnable, w_alone, w_named, w_hears, w_ripe, w_room, w_tables⟩
theorem atStart : AtStart classFile x code maxLocals ret World_1 tables_1 room_1 Calls_1 rest_1 Pre_1 launch0 p0 e0 about1 theMethod args0 below0 :=
  ⟨lists_1, trivial, launch0.admits_env _ _ _, launch0.least_env, fairChoices_fair.cas, fairChoices_fair.clock, w_frames, w_args, w_heap, w_applies, trivial, trivial, w_case⟩
end start1
theorem witness_1 : WitnessClaimed_1 := ⟨start1.p0, start1.e0, start1.about1, start1.theMethod, start1.args0, start1.below0, start1.atStart⟩
end Jvm.Pilot.@@N@@
