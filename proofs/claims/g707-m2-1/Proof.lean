import JvmDerived
import JvmDerived.Pilot.@@N@@Statement
import JvmDerived.Pilot.@@N@@Code
set_option linter.unusedVariables false
set_option linter.unusedSimpArgs false
@@BLOCK:NumsL.lean.txt@@
namespace Jvm.Pilot.@@N@@
open Jvm Jvm.ClassFile Sem Op Lib Jvm.Free Jvm.Stand Jvm.LawKit Jvm.RoadKit Bundle Jvm.Pilot.@@N@@.Jvm.D
section OwnKit
variable {p : Program} {l : Launch} {e : Env} {R : Room} {s : State} {m : MethodId} {args : Array Value} {below : List Frame} {meth : Method} {c : Code} {T T' : State} {locs : List Loc} {cells slots : Nat} {Z : State} {a0 : Array Value} {h h' : Heap} {cm sm : Nat} {Q : Option Value → Heap → List Loc → Prop} {pc pc' : Nat} {Ls Ls' : Array Slot} {St : List Value}
/-- the walk's goal: from this frame the method comes to its end, and Q holds of what it leaves -/
def Go (p : Program) (e : Env) (below : List Frame) (s : State) (cm sm : Nat) (Q : Option Value → Heap → List Loc → Prop) (T : State) (g : JFrame) : Prop :=
  ∃ s₂ o, Steps p.tables e below (T.setTop g) s₂ ∧ s₂.status = .running ∧ Ended s₂ below o ∧ ∃ v L, o = .returned v ∧ Q v s₂.heap L ∧ FrameEnd s o s₂ L cm sm
theorem Go.st {g g' : JFrame} (q : ∀ t, Steps p.tables e below (T'.setTop g') t → Steps p.tables e below (T.setTop g) t) (k : Go p e below s cm sm Q T' g') : Go p e below s cm sm Q T g := by
  obtain ⟨s₂, o, st, r⟩ := k
  exact ⟨s₂, o, q _ st, r⟩
theorem Go.weak {g : JFrame} {Q' : Option Value → Heap → List Loc → Prop} (k : Go p e below s cm sm Q T g) (q : ∀ v h L, Q v h L → Q' v h L) : Go p e below s cm sm Q' T g := by
  obtain ⟨s₂, o, st, r1, r2, v, L, r3, r4, r5⟩ := k
  exact ⟨s₂, o, st, r1, r2, v, L, r3, q _ _ _ r4, r5⟩
/-- a contract -/
def Con (l : Launch) (Z : State) (y : MethodName) (bytes : ByteArray) (maxL : Nat) (ret : Option FieldType) (rm : Room) (as' : Array Value) (h : Heap) (Q : Option Value → Heap → List Loc → Prop) : Prop :=
  ∀ ws : List Jvm.Cond, MetFree l y (head1 (Jvm.Cond.code y bytes maxL ret :: ws) rm) (fun a U => a = as' ∧ Z.Warmed39 U.vm ∧ U.heap = h) (fun _ _ _ _ _ => True) (fun _ U o U' => ∃ v L, o = .returned v ∧ Q v U'.heap L ∧ FrameEnd U o U' L rm.cells rm.slots)
theorem Con.of {y : MethodName} {bytes : ByteArray} {maxL : Nat} {ret : Option FieldType} {rm : Room} {as' : Array Value} (hpl : plainFor y = true)
    (body : ∀ (p : Program) (e : Env) (s : State) (m : MethodId) (below : List Frame) (meth : Method) (c : Code) (T : State), Stand p l e rm s m as' below meth c T [] 0 0 → p.tables.exec = Jvm.exec → Z.Warmed39 s.vm → c.code = bytes → c.maxLocals = maxL → s.vm.findClass y.cls = some m.cls → meth.name = y.name → meth.sig.returnType = ret → meth.locks = false → T.heap = h → Go p e below s rm.cells rm.slots Q T (entryFrame m as' maxL)) :
    Con l Z y bytes maxL ret rm as' h Q := by
  intro ws
  refine MetFree.of_bodySF hpl hisR ?_
  intro p e s m args below meth c s₁ Bd hml0 hP hK
  obtain ⟨rfl, hZ, hh⟩ := hP
  exact body p e s m below meth c s₁ (Stand.of_body Bd) Bd.exec hZ Bd.bytes hml0 (findClass_of_methodNamed Bd.named) (name_of_methodNamed Bd.named Bd.method).1 Bd.returns Bd.notSynchronized (by rw [← hh, Bd.state]; rfl)
theorem Con.weak {y : MethodName} {bytes : ByteArray} {maxL : Nat} {ret : Option FieldType} {rm : Room} {as' : Array Value} {Q' : Option Value → Heap → List Loc → Prop} (C : Con l Z y bytes maxL ret rm as' h Q) (q : ∀ v h L, Q v h L → Q' v h L) : Con l Z y bytes maxL ret rm as' h Q' := by
  intro ws p e ha hc hk s m args below hf happ hP hK
  obtain ⟨n, o, h1, h2, h3, v, L, r3, r4, r5⟩ := C ws p e ha hc hk s m args below hf happ hP hK
  exact ⟨n, o, h1, h2, h3, v, L, r3, q _ _ _ r4, r5⟩
/-- what a body that writes nothing leaves -/
abbrev QP (v0 : Option Value) (h0 : Heap) (n0 : Nat) : Option Value → Heap → List Loc → Prop := fun v h L => v = v0 ∧ Fr n0 L ∧ h = h0
/-- what a law leaves -/
abbrev QL (v0 : Option Value) (n0 : Nat) : Option Value → Heap → List Loc → Prop := fun v _ L => v = v0 ∧ Fr n0 L
/-- iushr, lushr -/
def jushr (x y : Int32) : Int32 := (x.toUInt32 >>> (y &&& 31).toUInt32).toInt32
def jlushr (x : Int64) (y : Int32) : Int64 := (x.toUInt64 >>> (y &&& 0x3f).toInt64.toUInt64).toInt64
theorem w_iloadN (X : Stand p l e R s m args below meth c T locs cells slots) (hx : p.tables.exec = Jvm.exec) {k : Fin 4} {v : Int32} (hd : decode c.code pc = .ok (.iload_n k, 1)) (hp : pc + 1 = pc') (hl : Ls[k.val]? = some (.val (.int v)))
    (kk : Go p e below s cm sm Q T (mkF m pc' Ls (.int v :: St))) : Go p e below s cm sm Q T (mkF m pc Ls (St)) := by
  subst hp
  exact Go.st (fun t q => XS.iloadN (g := mkF m pc Ls (St)) X.here hx rfl hd hl q) kk
theorem w_iload (X : Stand p l e R s m args below meth c T locs cells slots) (hx : p.tables.exec = Jvm.exec) {k : Nat} {v : Int32} (hd : decode c.code pc = .ok (.iload k, 2)) (hp : pc + 2 = pc') (hl : Ls[k]? = some (.val (.int v)))
    (kk : Go p e below s cm sm Q T (mkF m pc' Ls (.int v :: St))) : Go p e below s cm sm Q T (mkF m pc Ls (St)) := by
  subst hp
  exact Go.st (fun t q => XS.iload (g := mkF m pc Ls (St)) X.here hx rfl hd hl q) kk
theorem w_istoreN (X : Stand p l e R s m args below meth c T locs cells slots) (hx : p.tables.exec = Jvm.exec) {k : Fin 4} {x : Int32} (hd : decode c.code pc = .ok (.istore_n k, 1)) (hp : pc + 1 = pc') (hl : storeLocals Ls k.val (.int x) = some Ls')
    (kk : Go p e below s cm sm Q T (mkF m pc' Ls' (St))) : Go p e below s cm sm Q T (mkF m pc Ls (.int x :: St)) := by
  subst hp
  exact Go.st (fun t q => XS.istoreN (g := mkF m pc Ls (.int x :: St)) X.here hx rfl hd rfl hl q) kk
theorem w_istore (X : Stand p l e R s m args below meth c T locs cells slots) (hx : p.tables.exec = Jvm.exec) {k : Nat} {x : Int32} (hd : decode c.code pc = .ok (.istore k, 2)) (hp : pc + 2 = pc') (hl : storeLocals Ls k (.int x) = some Ls')
    (kk : Go p e below s cm sm Q T (mkF m pc' Ls' (St))) : Go p e below s cm sm Q T (mkF m pc Ls (.int x :: St)) := by
  subst hp
  exact Go.st (fun t q => XS.istore (g := mkF m pc Ls (.int x :: St)) X.here hx rfl hd rfl hl q) kk
theorem w_lloadN (X : Stand p l e R s m args below meth c T locs cells slots) (hx : p.tables.exec = Jvm.exec) {k : Fin 4} {v : Int64} (hd : decode c.code pc = .ok (.lload_n k, 1)) (hp : pc + 1 = pc') (hl : Ls[k.val]? = some (.val (.long v)))
    (kk : Go p e below s cm sm Q T (mkF m pc' Ls (.long v :: St))) : Go p e below s cm sm Q T (mkF m pc Ls (St)) := by
  subst hp
  exact Go.st (fun t q => XS.lloadN (g := mkF m pc Ls (St)) X.here hx rfl hd hl q) kk
theorem w_lload (X : Stand p l e R s m args below meth c T locs cells slots) (hx : p.tables.exec = Jvm.exec) {k : Nat} {v : Int64} (hd : decode c.code pc = .ok (.lload k, 2)) (hp : pc + 2 = pc') (hl : Ls[k]? = some (.val (.long v)))
    (kk : Go p e below s cm sm Q T (mkF m pc' Ls (.long v :: St))) : Go p e below s cm sm Q T (mkF m pc Ls (St)) := by
  subst hp
  exact Go.st (fun t q => XS.lload (g := mkF m pc Ls (St)) X.here hx rfl hd hl q) kk
theorem w_lstoreN (X : Stand p l e R s m args below meth c T locs cells slots) (hx : p.tables.exec = Jvm.exec) {k : Fin 4} {x : Int64} (hd : decode c.code pc = .ok (.lstore_n k, 1)) (hp : pc + 1 = pc') (hl : storeLocals Ls k.val (.long x) = some Ls')
    (kk : Go p e below s cm sm Q T (mkF m pc' Ls' (St))) : Go p e below s cm sm Q T (mkF m pc Ls (.long x :: St)) := by
  subst hp
  exact Go.st (fun t q => XS.lstoreN (g := mkF m pc Ls (.long x :: St)) X.here hx rfl hd rfl hl q) kk
theorem w_lstore (X : Stand p l e R s m args below meth c T locs cells slots) (hx : p.tables.exec = Jvm.exec) {k : Nat} {x : Int64} (hd : decode c.code pc = .ok (.lstore k, 2)) (hp : pc + 2 = pc') (hl : storeLocals Ls k (.long x) = some Ls')
    (kk : Go p e below s cm sm Q T (mkF m pc' Ls' (St))) : Go p e below s cm sm Q T (mkF m pc Ls (.long x :: St)) := by
  subst hp
  exact Go.st (fun t q => XS.lstore (g := mkF m pc Ls (.long x :: St)) X.here hx rfl hd rfl hl q) kk
theorem w_aloadN (X : Stand p l e R s m args below meth c T locs cells slots) (hx : p.tables.exec = Jvm.exec) {k : Fin 4} {v : Value} (hd : decode c.code pc = .ok (.aload_n k, 1)) (hp : pc + 1 = pc') (hl : Ls[k.val]? = some (.val v)) (hv : v.isRef = true)
    (kk : Go p e below s cm sm Q T (mkF m pc' Ls (v :: St))) : Go p e below s cm sm Q T (mkF m pc Ls (St)) := by
  subst hp
  exact Go.st (fun t q => XS.aloadN (g := mkF m pc Ls (St)) X.here hx rfl hd hl hv q) kk
theorem w_aload (X : Stand p l e R s m args below meth c T locs cells slots) (hx : p.tables.exec = Jvm.exec) {k : Nat} {v : Value} (hd : decode c.code pc = .ok (.aload k, 2)) (hp : pc + 2 = pc') (hl : Ls[k]? = some (.val v)) (hv : v.isRef = true)
    (kk : Go p e below s cm sm Q T (mkF m pc' Ls (v :: St))) : Go p e below s cm sm Q T (mkF m pc Ls (St)) := by
  subst hp
  exact Go.st (fun t q => XS.aload (g := mkF m pc Ls (St)) X.here hx rfl hd hl hv q) kk
theorem w_astoreN (X : Stand p l e R s m args below meth c T locs cells slots) (hx : p.tables.exec = Jvm.exec) {k : Fin 4} {x : Value} (hd : decode c.code pc = .ok (.astore_n k, 1)) (hp : pc + 1 = pc') (hv : x.isRef = true) (hl : storeLocals Ls k.val x = some Ls')
    (kk : Go p e below s cm sm Q T (mkF m pc' Ls' (St))) : Go p e below s cm sm Q T (mkF m pc Ls (x :: St)) := by
  subst hp
  exact Go.st (fun t q => XS.astoreN (g := mkF m pc Ls (x :: St)) X.here hx rfl hd rfl hv hl q) kk
theorem w_astore (X : Stand p l e R s m args below meth c T locs cells slots) (hx : p.tables.exec = Jvm.exec) {k : Nat} {x : Value} (hd : decode c.code pc = .ok (.astore k, 2)) (hp : pc + 2 = pc') (hv : x.isRef = true) (hl : storeLocals Ls k x = some Ls')
    (kk : Go p e below s cm sm Q T (mkF m pc' Ls' (St))) : Go p e below s cm sm Q T (mkF m pc Ls (x :: St)) := by
  subst hp
  exact Go.st (fun t q => XS.astore (g := mkF m pc Ls (x :: St)) X.here hx rfl hd rfl hv hl q) kk
theorem w_iconst (X : Stand p l e R s m args below meth c T locs cells slots) (hx : p.tables.exec = Jvm.exec) {i : Int} {v : Int32} (hd : decode c.code pc = .ok (.iconst i, 1)) (hp : pc + 1 = pc') (hv : Int32.ofInt i = v)
    (kk : Go p e below s cm sm Q T (mkF m pc' Ls (.int v :: St))) : Go p e below s cm sm Q T (mkF m pc Ls St) := by
  subst hp hv
  exact Go.st (fun t q => XS.iconst (g := mkF m pc Ls St) X.here hx rfl hd q) kk
theorem w_bipush (X : Stand p l e R s m args below meth c T locs cells slots) (hx : p.tables.exec = Jvm.exec) {i : Int} {v : Int32} (hd : decode c.code pc = .ok (.bipush i, 2)) (hp : pc + 2 = pc') (hv : (Int8.ofInt i).toInt32 = v)
    (kk : Go p e below s cm sm Q T (mkF m pc' Ls (.int v :: St))) : Go p e below s cm sm Q T (mkF m pc Ls St) := by
  subst hp hv
  exact Go.st (fun t q => XS.bipush (g := mkF m pc Ls St) X.here hx rfl hd q) kk
theorem w_sipush (X : Stand p l e R s m args below meth c T locs cells slots) (hx : p.tables.exec = Jvm.exec) {i : Int} {v : Int32} (hd : decode c.code pc = .ok (.sipush i, 3)) (hp : pc + 3 = pc') (hv : (Int16.ofInt i).toInt32 = v)
    (kk : Go p e below s cm sm Q T (mkF m pc' Ls (.int v :: St))) : Go p e below s cm sm Q T (mkF m pc Ls St) := by
  subst hp hv
  exact Go.st (fun t q => XS.sipush (g := mkF m pc Ls St) X.here hx rfl hd q) kk
theorem w_lconst (X : Stand p l e R s m args below meth c T locs cells slots) (hx : p.tables.exec = Jvm.exec) {i : Fin 2} {v : Int64} (hd : decode c.code pc = .ok (.lconst i, 1)) (hp : pc + 1 = pc') (hv : Int64.ofNat i = v)
    (kk : Go p e below s cm sm Q T (mkF m pc' Ls (.long v :: St))) : Go p e below s cm sm Q T (mkF m pc Ls St) := by
  subst hp hv
  exact Go.st (fun t q => XS.lconst (g := mkF m pc Ls St) X.here hx rfl hd q) kk
theorem w_aconstNull (X : Stand p l e R s m args below meth c T locs cells slots) (hx : p.tables.exec = Jvm.exec)  (hd : decode c.code pc = .ok (.aconst_null, 1)) (hp : pc + 1 = pc')
    (kk : Go p e below s cm sm Q T (mkF m pc' Ls (.null :: St))) : Go p e below s cm sm Q T (mkF m pc Ls (St)) := by
  subst hp
  exact Go.st (fun t q => XS.aconstNull (g := mkF m pc Ls (St)) X.here hx rfl hd q) kk
theorem w_iadd (X : Stand p l e R s m args below meth c T locs cells slots) (hx : p.tables.exec = Jvm.exec) {x y : Int32} (hd : decode c.code pc = .ok (.iadd, 1)) (hp : pc + 1 = pc')
    (kk : Go p e below s cm sm Q T (mkF m pc' Ls (.int (x + y) :: St))) : Go p e below s cm sm Q T (mkF m pc Ls (.int y :: .int x :: St)) := by
  subst hp
  exact Go.st (fun t q => XS.iadd (g := mkF m pc Ls (.int y :: .int x :: St)) X.here hx rfl hd rfl q) kk
theorem w_ladd (X : Stand p l e R s m args below meth c T locs cells slots) (hx : p.tables.exec = Jvm.exec) {x y : Int64} (hd : decode c.code pc = .ok (.ladd, 1)) (hp : pc + 1 = pc')
    (kk : Go p e below s cm sm Q T (mkF m pc' Ls (.long (x + y) :: St))) : Go p e below s cm sm Q T (mkF m pc Ls (.long y :: .long x :: St)) := by
  subst hp
  exact Go.st (fun t q => XS.ladd (g := mkF m pc Ls (.long y :: .long x :: St)) X.here hx rfl hd rfl q) kk
theorem w_isub (X : Stand p l e R s m args below meth c T locs cells slots) (hx : p.tables.exec = Jvm.exec) {x y : Int32} (hd : decode c.code pc = .ok (.isub, 1)) (hp : pc + 1 = pc')
    (kk : Go p e below s cm sm Q T (mkF m pc' Ls (.int (x - y) :: St))) : Go p e below s cm sm Q T (mkF m pc Ls (.int y :: .int x :: St)) := by
  subst hp
  exact Go.st (fun t q => XS.isub (g := mkF m pc Ls (.int y :: .int x :: St)) X.here hx rfl hd rfl q) kk
theorem w_lsub (X : Stand p l e R s m args below meth c T locs cells slots) (hx : p.tables.exec = Jvm.exec) {x y : Int64} (hd : decode c.code pc = .ok (.lsub, 1)) (hp : pc + 1 = pc')
    (kk : Go p e below s cm sm Q T (mkF m pc' Ls (.long (x - y) :: St))) : Go p e below s cm sm Q T (mkF m pc Ls (.long y :: .long x :: St)) := by
  subst hp
  exact Go.st (fun t q => XS.lsub (g := mkF m pc Ls (.long y :: .long x :: St)) X.here hx rfl hd rfl q) kk
theorem w_imul (X : Stand p l e R s m args below meth c T locs cells slots) (hx : p.tables.exec = Jvm.exec) {x y : Int32} (hd : decode c.code pc = .ok (.imul, 1)) (hp : pc + 1 = pc')
    (kk : Go p e below s cm sm Q T (mkF m pc' Ls (.int (x * y) :: St))) : Go p e below s cm sm Q T (mkF m pc Ls (.int y :: .int x :: St)) := by
  subst hp
  exact Go.st (fun t q => XS.imul (g := mkF m pc Ls (.int y :: .int x :: St)) X.here hx rfl hd rfl q) kk
theorem w_lmul (X : Stand p l e R s m args below meth c T locs cells slots) (hx : p.tables.exec = Jvm.exec) {x y : Int64} (hd : decode c.code pc = .ok (.lmul, 1)) (hp : pc + 1 = pc')
    (kk : Go p e below s cm sm Q T (mkF m pc' Ls (.long (x * y) :: St))) : Go p e below s cm sm Q T (mkF m pc Ls (.long y :: .long x :: St)) := by
  subst hp
  exact Go.st (fun t q => XS.lmul (g := mkF m pc Ls (.long y :: .long x :: St)) X.here hx rfl hd rfl q) kk
theorem w_iand (X : Stand p l e R s m args below meth c T locs cells slots) (hx : p.tables.exec = Jvm.exec) {x y : Int32} (hd : decode c.code pc = .ok (.iand, 1)) (hp : pc + 1 = pc')
    (kk : Go p e below s cm sm Q T (mkF m pc' Ls (.int (x &&& y) :: St))) : Go p e below s cm sm Q T (mkF m pc Ls (.int y :: .int x :: St)) := by
  subst hp
  exact Go.st (fun t q => XS.iand (g := mkF m pc Ls (.int y :: .int x :: St)) X.here hx rfl hd rfl q) kk
theorem w_land (X : Stand p l e R s m args below meth c T locs cells slots) (hx : p.tables.exec = Jvm.exec) {x y : Int64} (hd : decode c.code pc = .ok (.land, 1)) (hp : pc + 1 = pc')
    (kk : Go p e below s cm sm Q T (mkF m pc' Ls (.long (x &&& y) :: St))) : Go p e below s cm sm Q T (mkF m pc Ls (.long y :: .long x :: St)) := by
  subst hp
  exact Go.st (fun t q => XS.land (g := mkF m pc Ls (.long y :: .long x :: St)) X.here hx rfl hd rfl q) kk
theorem w_ior (X : Stand p l e R s m args below meth c T locs cells slots) (hx : p.tables.exec = Jvm.exec) {x y : Int32} (hd : decode c.code pc = .ok (.ior, 1)) (hp : pc + 1 = pc')
    (kk : Go p e below s cm sm Q T (mkF m pc' Ls (.int (x ||| y) :: St))) : Go p e below s cm sm Q T (mkF m pc Ls (.int y :: .int x :: St)) := by
  subst hp
  exact Go.st (fun t q => XS.ior (g := mkF m pc Ls (.int y :: .int x :: St)) X.here hx rfl hd rfl q) kk
theorem w_lor (X : Stand p l e R s m args below meth c T locs cells slots) (hx : p.tables.exec = Jvm.exec) {x y : Int64} (hd : decode c.code pc = .ok (.lor, 1)) (hp : pc + 1 = pc')
    (kk : Go p e below s cm sm Q T (mkF m pc' Ls (.long (x ||| y) :: St))) : Go p e below s cm sm Q T (mkF m pc Ls (.long y :: .long x :: St)) := by
  subst hp
  exact Go.st (fun t q => XS.lor (g := mkF m pc Ls (.long y :: .long x :: St)) X.here hx rfl hd rfl q) kk
theorem w_ixor (X : Stand p l e R s m args below meth c T locs cells slots) (hx : p.tables.exec = Jvm.exec) {x y : Int32} (hd : decode c.code pc = .ok (.ixor, 1)) (hp : pc + 1 = pc')
    (kk : Go p e below s cm sm Q T (mkF m pc' Ls (.int (x ^^^ y) :: St))) : Go p e below s cm sm Q T (mkF m pc Ls (.int y :: .int x :: St)) := by
  subst hp
  exact Go.st (fun t q => XS.ixor (g := mkF m pc Ls (.int y :: .int x :: St)) X.here hx rfl hd rfl q) kk
theorem w_lxor (X : Stand p l e R s m args below meth c T locs cells slots) (hx : p.tables.exec = Jvm.exec) {x y : Int64} (hd : decode c.code pc = .ok (.lxor, 1)) (hp : pc + 1 = pc')
    (kk : Go p e below s cm sm Q T (mkF m pc' Ls (.long (x ^^^ y) :: St))) : Go p e below s cm sm Q T (mkF m pc Ls (.long y :: .long x :: St)) := by
  subst hp
  exact Go.st (fun t q => XS.lxor (g := mkF m pc Ls (.long y :: .long x :: St)) X.here hx rfl hd rfl q) kk
theorem w_idiv (X : Stand p l e R s m args below meth c T locs cells slots) (hx : p.tables.exec = Jvm.exec) {x y : Int32} (hd : decode c.code pc = .ok (.idiv, 1)) (hp : pc + 1 = pc') (hy : y ≠ 0)
    (kk : Go p e below s cm sm Q T (mkF m pc' Ls (.int (x / y) :: St))) : Go p e below s cm sm Q T (mkF m pc Ls (.int y :: .int x :: St)) := by
  subst hp
  exact Go.st (fun t q => XS.idiv (g := mkF m pc Ls (.int y :: .int x :: St)) X.here hx rfl hd rfl hy q) kk
theorem own_irem (x y : Int32) : x - x / y * y = x % y := by
  apply Int32.toInt_inj.mp
  have h : x.toInt - x.toInt.tdiv y.toInt * y.toInt = x.toInt.tmod y.toInt := by
    have := Int.mul_tdiv_add_tmod x.toInt y.toInt
    rw [Int.mul_comm]; omega
  have hr := (x % y).toInt_lt
  have hl := (x % y).le_toInt
  rw [Int32.toInt_mod] at hr hl
  rw [Int32.toInt_sub, Int32.toInt_mul, Int32.toInt_div, Int32.toInt_mod, Int.bmod_mul_bmod, Int.sub_bmod_bmod, h, Jvm.Kit.bmod32 (by omega) (by omega)]
theorem w_irem (X : Stand p l e R s m args below meth c T locs cells slots) (hx : p.tables.exec = Jvm.exec) {x y : Int32} (hd : decode c.code pc = .ok (.irem, 1)) (hp : pc + 1 = pc') (hy : y ≠ 0)
    (kk : Go p e below s cm sm Q T (mkF m pc' Ls (.int (x % y) :: St))) : Go p e below s cm sm Q T (mkF m pc Ls (.int y :: .int x :: St)) := by
  subst hp
  rw [← own_irem] at kk
  exact Go.st (fun t q => XS.irem (g := mkF m pc Ls (.int y :: .int x :: St)) X.here hx rfl hd rfl hy q) kk
theorem w_ldiv (X : Stand p l e R s m args below meth c T locs cells slots) (hx : p.tables.exec = Jvm.exec) {x y : Int64} (hd : decode c.code pc = .ok (.ldiv, 1)) (hp : pc + 1 = pc') (hy : y ≠ 0)
    (kk : Go p e below s cm sm Q T (mkF m pc' Ls (.long (x / y) :: St))) : Go p e below s cm sm Q T (mkF m pc Ls (.long y :: .long x :: St)) := by
  subst hp
  exact Go.st (fun t q => XS.ldiv (g := mkF m pc Ls (.long y :: .long x :: St)) X.here hx rfl hd rfl hy q) kk
theorem own_lrem (x y : Int64) : x - x / y * y = x % y := by
  apply Int64.toInt_inj.mp
  have h : x.toInt - x.toInt.tdiv y.toInt * y.toInt = x.toInt.tmod y.toInt := by
    have := Int.mul_tdiv_add_tmod x.toInt y.toInt
    rw [Int.mul_comm]; omega
  have hr := (x % y).toInt_lt
  have hl := (x % y).le_toInt
  rw [Int64.toInt_mod] at hr hl
  rw [Int64.toInt_sub, Int64.toInt_mul, Int64.toInt_div, Int64.toInt_mod, Int.bmod_mul_bmod, Int.sub_bmod_bmod, h, Jvm.Kit.bmod64 (by omega) (by omega)]
theorem w_lrem (X : Stand p l e R s m args below meth c T locs cells slots) (hx : p.tables.exec = Jvm.exec) {x y : Int64} (hd : decode c.code pc = .ok (.lrem, 1)) (hp : pc + 1 = pc') (hy : y ≠ 0)
    (kk : Go p e below s cm sm Q T (mkF m pc' Ls (.long (x % y) :: St))) : Go p e below s cm sm Q T (mkF m pc Ls (.long y :: .long x :: St)) := by
  subst hp
  rw [← own_lrem] at kk
  exact Go.st (fun t q => XS.lrem (g := mkF m pc Ls (.long y :: .long x :: St)) X.here hx rfl hd rfl hy q) kk
theorem w_ineg (X : Stand p l e R s m args below meth c T locs cells slots) (hx : p.tables.exec = Jvm.exec) {x : Int32} (hd : decode c.code pc = .ok (.ineg, 1)) (hp : pc + 1 = pc')
    (kk : Go p e below s cm sm Q T (mkF m pc' Ls (.int (-x) :: St))) : Go p e below s cm sm Q T (mkF m pc Ls (.int x :: St)) := by
  subst hp
  exact Go.st (fun t q => XS.ineg (g := mkF m pc Ls (.int x :: St)) X.here hx rfl hd rfl q) kk
theorem w_lneg (X : Stand p l e R s m args below meth c T locs cells slots) (hx : p.tables.exec = Jvm.exec) {x : Int64} (hd : decode c.code pc = .ok (.lneg, 1)) (hp : pc + 1 = pc')
    (kk : Go p e below s cm sm Q T (mkF m pc' Ls (.long (-x) :: St))) : Go p e below s cm sm Q T (mkF m pc Ls (.long x :: St)) := by
  subst hp
  exact Go.st (fun t q => XS.lneg (g := mkF m pc Ls (.long x :: St)) X.here hx rfl hd rfl q) kk
theorem w_i2l (X : Stand p l e R s m args below meth c T locs cells slots) (hx : p.tables.exec = Jvm.exec) {x : Int32} (hd : decode c.code pc = .ok (.i2l, 1)) (hp : pc + 1 = pc')
    (kk : Go p e below s cm sm Q T (mkF m pc' Ls (.long x.toInt64 :: St))) : Go p e below s cm sm Q T (mkF m pc Ls (.int x :: St)) := by
  subst hp
  exact Go.st (fun t q => XS.i2l (g := mkF m pc Ls (.int x :: St)) X.here hx rfl hd rfl q) kk
theorem w_l2i (X : Stand p l e R s m args below meth c T locs cells slots) (hx : p.tables.exec = Jvm.exec) {x : Int64} (hd : decode c.code pc = .ok (.l2i, 1)) (hp : pc + 1 = pc')
    (kk : Go p e below s cm sm Q T (mkF m pc' Ls (.int x.toInt32 :: St))) : Go p e below s cm sm Q T (mkF m pc Ls (.long x :: St)) := by
  subst hp
  exact Go.st (fun t q => XS.l2i (g := mkF m pc Ls (.long x :: St)) X.here hx rfl hd rfl q) kk
theorem w_i2b (X : Stand p l e R s m args below meth c T locs cells slots) (hx : p.tables.exec = Jvm.exec) {x : Int32} (hd : decode c.code pc = .ok (.i2b, 1)) (hp : pc + 1 = pc')
    (kk : Go p e below s cm sm Q T (mkF m pc' Ls (.int x.toInt8.toInt32 :: St))) : Go p e below s cm sm Q T (mkF m pc Ls (.int x :: St)) := by
  subst hp
  exact Go.st (fun t q => XS.i2b (g := mkF m pc Ls (.int x :: St)) X.here hx rfl hd rfl q) kk
theorem w_i2c (X : Stand p l e R s m args below meth c T locs cells slots) (hx : p.tables.exec = Jvm.exec) {x : Int32} (hd : decode c.code pc = .ok (.i2c, 1)) (hp : pc + 1 = pc')
    (kk : Go p e below s cm sm Q T (mkF m pc' Ls (.int x.toUInt32.toUInt16.toUInt32.toInt32 :: St))) : Go p e below s cm sm Q T (mkF m pc Ls (.int x :: St)) := by
  subst hp
  exact Go.st (fun t q => XS.i2c (g := mkF m pc Ls (.int x :: St)) X.here hx rfl hd rfl q) kk
theorem w_ishl (X : Stand p l e R s m args below meth c T locs cells slots) (hx : p.tables.exec = Jvm.exec) {x y : Int32} (hd : decode c.code pc = .ok (.ishl, 1)) (hp : pc + 1 = pc')
    (kk : Go p e below s cm sm Q T (mkF m pc' Ls (.int (x <<< (y &&& 31)) :: St))) : Go p e below s cm sm Q T (mkF m pc Ls (.int y :: .int x :: St)) := by
  subst hp
  exact Go.st (fun t q => XS.ishl (g := mkF m pc Ls (.int y :: .int x :: St)) X.here hx rfl hd rfl q) kk
theorem w_ishr (X : Stand p l e R s m args below meth c T locs cells slots) (hx : p.tables.exec = Jvm.exec) {x y : Int32} (hd : decode c.code pc = .ok (.ishr, 1)) (hp : pc + 1 = pc')
    (kk : Go p e below s cm sm Q T (mkF m pc' Ls (.int (x >>> (y &&& 31)) :: St))) : Go p e below s cm sm Q T (mkF m pc Ls (.int y :: .int x :: St)) := by
  subst hp
  exact Go.st (fun t q => XS.ishr (g := mkF m pc Ls (.int y :: .int x :: St)) X.here hx rfl hd rfl q) kk
theorem w_iushr (X : Stand p l e R s m args below meth c T locs cells slots) (hx : p.tables.exec = Jvm.exec) {x y : Int32} (hd : decode c.code pc = .ok (.iushr, 1)) (hp : pc + 1 = pc')
    (kk : Go p e below s cm sm Q T (mkF m pc' Ls (.int (jushr x y) :: St))) : Go p e below s cm sm Q T (mkF m pc Ls (.int y :: .int x :: St)) := by
  subst hp
  exact Go.st (fun t q => XS.iushr (g := mkF m pc Ls (.int y :: .int x :: St)) X.here hx rfl hd rfl q) kk
theorem w_lshl (X : Stand p l e R s m args below meth c T locs cells slots) (hx : p.tables.exec = Jvm.exec) {x : Int64} {y : Int32} (hd : decode c.code pc = .ok (.lshl, 1)) (hp : pc + 1 = pc')
    (kk : Go p e below s cm sm Q T (mkF m pc' Ls (.long (x <<< (y &&& 0x3f).toInt64) :: St))) : Go p e below s cm sm Q T (mkF m pc Ls (.int y :: .long x :: St)) := by
  subst hp
  exact Go.st (fun t q => XS.lshl (g := mkF m pc Ls (.int y :: .long x :: St)) X.here hx rfl hd rfl q) kk
theorem w_lshr (X : Stand p l e R s m args below meth c T locs cells slots) (hx : p.tables.exec = Jvm.exec) {x : Int64} {y : Int32} (hd : decode c.code pc = .ok (.lshr, 1)) (hp : pc + 1 = pc')
    (kk : Go p e below s cm sm Q T (mkF m pc' Ls (.long (x >>> (y &&& 0x3f).toInt64) :: St))) : Go p e below s cm sm Q T (mkF m pc Ls (.int y :: .long x :: St)) := by
  subst hp
  exact Go.st (fun t q => XS.lshr (g := mkF m pc Ls (.int y :: .long x :: St)) X.here hx rfl hd rfl q) kk
theorem w_lushr (X : Stand p l e R s m args below meth c T locs cells slots) (hx : p.tables.exec = Jvm.exec) {x : Int64} {y : Int32} (hd : decode c.code pc = .ok (.lushr, 1)) (hp : pc + 1 = pc')
    (kk : Go p e below s cm sm Q T (mkF m pc' Ls (.long (jlushr x y) :: St))) : Go p e below s cm sm Q T (mkF m pc Ls (.int y :: .long x :: St)) := by
  subst hp
  exact Go.st (fun t q => XS.lushr (g := mkF m pc Ls (.int y :: .long x :: St)) X.here hx rfl hd rfl q) kk
theorem w_lcmp (X : Stand p l e R s m args below meth c T locs cells slots) (hx : p.tables.exec = Jvm.exec) {x y : Int64} (hd : decode c.code pc = .ok (.lcmp, 1)) (hp : pc + 1 = pc')
    (kk : Go p e below s cm sm Q T (mkF m pc' Ls (.int (lcmpW x y) :: St))) : Go p e below s cm sm Q T (mkF m pc Ls (.long y :: .long x :: St)) := by
  subst hp
  exact Go.st (fun t q => XS.lcmp (g := mkF m pc Ls (.long y :: .long x :: St)) X.here hx rfl hd rfl q) kk
theorem w_dup (X : Stand p l e R s m args below meth c T locs cells slots) (hx : p.tables.exec = Jvm.exec) {x : Value} (hd : decode c.code pc = .ok (.dup, 1)) (hp : pc + 1 = pc') (hv : x.category = 1)
    (kk : Go p e below s cm sm Q T (mkF m pc' Ls (x :: x :: St))) : Go p e below s cm sm Q T (mkF m pc Ls (x :: St)) := by
  subst hp
  exact Go.st (fun t q => XS.dup (g := mkF m pc Ls (x :: St)) X.here hx rfl hd rfl hv q) kk
theorem w_pop (X : Stand p l e R s m args below meth c T locs cells slots) (hx : p.tables.exec = Jvm.exec) {x : Value} (hd : decode c.code pc = .ok (.pop, 1)) (hp : pc + 1 = pc') (hv : x.category = 1)
    (kk : Go p e below s cm sm Q T (mkF m pc' Ls (St))) : Go p e below s cm sm Q T (mkF m pc Ls (x :: St)) := by
  subst hp
  exact Go.st (fun t q => XS.pop (g := mkF m pc Ls (x :: St)) X.here hx rfl hd rfl hv q) kk
theorem w_dupX1 (X : Stand p l e R s m args below meth c T locs cells slots) (hx : p.tables.exec = Jvm.exec) {x y : Value} (hd : decode c.code pc = .ok (.dup_x1, 1)) (hp : pc + 1 = pc') (hv : x.category = 1) (hv' : y.category = 1)
    (kk : Go p e below s cm sm Q T (mkF m pc' Ls (x :: y :: x :: St))) : Go p e below s cm sm Q T (mkF m pc Ls (x :: y :: St)) := by
  subst hp
  exact Go.st (fun t q => XS.dupX1 (g := mkF m pc Ls (x :: y :: St)) X.here hx rfl hd rfl hv hv' q) kk
theorem w_iinc (X : Stand p l e R s m args below meth c T locs cells slots) (hx : p.tables.exec = Jvm.exec) {k : Nat} {cst : Int} {x w : Int32} (hd : decode c.code pc = .ok (.iinc k cst, 3)) (hp : pc + 3 = pc') (hl : Ls[k]? = some (.val (.int x))) (hv : Int32.ofInt cst = w) (hl' : storeLocals Ls k (.int (x + w)) = some Ls')
    (kk : Go p e below s cm sm Q T (mkF m pc' Ls' St)) : Go p e below s cm sm Q T (mkF m pc Ls St) := by
  subst hp hv
  exact Go.st (fun t q => XS.iinc (g := mkF m pc Ls St) X.here hx rfl hd hl hl' q) kk
theorem w_goto (X : Stand p l e R s m args below meth c T locs cells slots) (hx : p.tables.exec = Jvm.exec) {o : Int} (hd : decode c.code pc = .ok (.goto o, 3)) (ho : 0 ≤ (pc : Int) + o) (hp : ((pc : Int) + o).toNat = pc')
    (kk : Go p e below s cm sm Q T (mkF m pc' Ls St)) : Go p e below s cm sm Q T (mkF m pc Ls St) :=
  Go.st (fun t q => XS.goto (g := mkF m pc Ls St) X.here hx rfl (pc0 := pc) (pc' := pc') rfl hd ho hp q) kk
theorem w_icmp0 (X : Stand p l e R s m args below meth c T locs cells slots) (hx : p.tables.exec = Jvm.exec) {cd : ClassFile.Cond} {x y : Int32} {o : Int} {pt pf : Nat} (hd : decode c.code pc = .ok (.if_icmp cd o, 3)) (hf : pc + 3 = pf) (ho : 0 ≤ (pc : Int) + o) (hp : ((pc : Int) + o).toNat = pt)
    (kT : if_icmp.holds cd x y = true → Go p e below s cm sm Q T (mkF m pt Ls St)) (kF : if_icmp.holds cd x y = false → Go p e below s cm sm Q T (mkF m pf Ls St)) : Go p e below s cm sm Q T (mkF m pc Ls (.int y :: .int x :: St)) := by
  subst hf
  cases hc : if_icmp.holds cd x y with
  | true => exact Go.st (fun t q => XS.icmpYes (g := mkF m pc Ls (.int y :: .int x :: St)) X.here hx rfl (pc0 := pc) (pc' := pt) rfl hd rfl hc ho hp q) (kT hc)
  | false => exact Go.st (fun t q => XS.icmpNo (g := mkF m pc Ls (.int y :: .int x :: St)) X.here hx rfl hd rfl hc q) (kF hc)
theorem w_if0 (X : Stand p l e R s m args below meth c T locs cells slots) (hx : p.tables.exec = Jvm.exec) {cd : ClassFile.Cond} {x : Int32} {o : Int} {pt pf : Nat} (hd : decode c.code pc = .ok (.ifCond cd o, 3)) (hf : pc + 3 = pf) (ho : 0 ≤ (pc : Int) + o) (hp : ((pc : Int) + o).toNat = pt)
    (kT : if_icmp.holds cd x 0 = true → Go p e below s cm sm Q T (mkF m pt Ls St)) (kF : if_icmp.holds cd x 0 = false → Go p e below s cm sm Q T (mkF m pf Ls St)) : Go p e below s cm sm Q T (mkF m pc Ls (.int x :: St)) := by
  subst hf
  cases hc : if_icmp.holds cd x 0 with
  | true => exact Go.st (fun t q => XS.ifYes (g := mkF m pc Ls (.int x :: St)) X.here hx rfl (pc0 := pc) (pc' := pt) rfl hd rfl ((if0 _ _).trans hc) ho hp q) (kT hc)
  | false => exact Go.st (fun t q => XS.ifNo (g := mkF m pc Ls (.int x :: St)) X.here hx rfl hd rfl ((if0 _ _).trans hc) q) (kF hc)
theorem h_lt {x y : Int32} : (if_icmp.holds .lt x y = true → x < y) ∧ (if_icmp.holds .lt x y = false → ¬ x < y) := ⟨fun h => Decidable.byContradiction fun q => by simp [(flt q).1] at h, fun h q => by simp [(tlt q).1] at h⟩
theorem h_ge {x y : Int32} : (if_icmp.holds .ge x y = true → ¬ x < y) ∧ (if_icmp.holds .ge x y = false → x < y) := ⟨fun h q => by simp [(tlt q).2.1] at h, fun h => Decidable.byContradiction fun q => by simp [(flt q).2.1] at h⟩
theorem h_gt {x y : Int32} : (if_icmp.holds .gt x y = true → y < x) ∧ (if_icmp.holds .gt x y = false → ¬ y < x) := ⟨fun h => Decidable.byContradiction fun q => by simp [(flt q).2.2.1] at h, fun h q => by simp [(tlt q).2.2.1] at h⟩
theorem h_le {x y : Int32} : (if_icmp.holds .le x y = true → ¬ y < x) ∧ (if_icmp.holds .le x y = false → y < x) := ⟨fun h q => by simp [(tlt q).2.2.2] at h, fun h => Decidable.byContradiction fun q => by simp [(flt q).2.2.2] at h⟩
theorem h_eq {x y : Int32} : (if_icmp.holds .eq x y = true → x = y) ∧ (if_icmp.holds .eq x y = false → ¬ x = y) := ⟨fun h => Decidable.byContradiction fun q => by simp [(feq q).1] at h, fun h q => by simp [(teq q).1] at h⟩
theorem h_ne {x y : Int32} : (if_icmp.holds .ne x y = true → ¬ x = y) ∧ (if_icmp.holds .ne x y = false → x = y) := ⟨fun h q => by simp [(teq q).2] at h, fun h => Decidable.byContradiction fun q => by simp [(feq q).2] at h⟩
theorem w_icmp_lt (X : Stand p l e R s m args below meth c T locs cells slots) (hx : p.tables.exec = Jvm.exec) {x y : Int32} {o : Int} {pt pf : Nat} (hd : decode c.code pc = .ok (.if_icmp .lt o, 3)) (hf : pc + 3 = pf) (ho : 0 ≤ (pc : Int) + o) (hp : ((pc : Int) + o).toNat = pt)
    (kT : x < y → Go p e below s cm sm Q T (mkF m pt Ls St)) (kF : ¬ (x < y) → Go p e below s cm sm Q T (mkF m pf Ls St)) : Go p e below s cm sm Q T (mkF m pc Ls (.int y :: .int x :: St)) :=
  w_icmp0 X hx hd hf ho hp (fun h => kT (h_lt.1 h)) (fun h => kF (h_lt.2 h))
theorem w_if_lt (X : Stand p l e R s m args below meth c T locs cells slots) (hx : p.tables.exec = Jvm.exec) {x : Int32} {o : Int} {pt pf : Nat} (hd : decode c.code pc = .ok (.ifCond .lt o, 3)) (hf : pc + 3 = pf) (ho : 0 ≤ (pc : Int) + o) (hp : ((pc : Int) + o).toNat = pt)
    (kT : x < 0 → Go p e below s cm sm Q T (mkF m pt Ls St)) (kF : ¬ (x < 0) → Go p e below s cm sm Q T (mkF m pf Ls St)) : Go p e below s cm sm Q T (mkF m pc Ls (.int x :: St)) :=
  w_if0 X hx hd hf ho hp (fun h => kT (h_lt.1 h)) (fun h => kF (h_lt.2 h))
theorem w_ifL_lt (X : Stand p l e R s m args below meth c T locs cells slots) (hx : p.tables.exec = Jvm.exec) {x y : Int64} {o : Int} {pt pf : Nat} (hd : decode c.code pc = .ok (.ifCond .lt o, 3)) (hf : pc + 3 = pf) (ho : 0 ≤ (pc : Int) + o) (hp : ((pc : Int) + o).toNat = pt)
    (kT : x < y → Go p e below s cm sm Q T (mkF m pt Ls St)) (kF : ¬ (x < y) → Go p e below s cm sm Q T (mkF m pf Ls St)) : Go p e below s cm sm Q T (mkF m pc Ls (.int (lcmpW x y) :: St)) :=
  w_if_lt X hx hd hf ho hp (fun q => kT ((lw_lt x y).1 q)) (fun q => kF (fun r => q ((lw_lt x y).2 r)))
theorem w_icmp_ge (X : Stand p l e R s m args below meth c T locs cells slots) (hx : p.tables.exec = Jvm.exec) {x y : Int32} {o : Int} {pt pf : Nat} (hd : decode c.code pc = .ok (.if_icmp .ge o, 3)) (hf : pc + 3 = pf) (ho : 0 ≤ (pc : Int) + o) (hp : ((pc : Int) + o).toNat = pt)
    (kT : ¬ (x < y) → Go p e below s cm sm Q T (mkF m pt Ls St)) (kF : x < y → Go p e below s cm sm Q T (mkF m pf Ls St)) : Go p e below s cm sm Q T (mkF m pc Ls (.int y :: .int x :: St)) :=
  w_icmp0 X hx hd hf ho hp (fun h => kT (h_ge.1 h)) (fun h => kF (h_ge.2 h))
theorem w_if_ge (X : Stand p l e R s m args below meth c T locs cells slots) (hx : p.tables.exec = Jvm.exec) {x : Int32} {o : Int} {pt pf : Nat} (hd : decode c.code pc = .ok (.ifCond .ge o, 3)) (hf : pc + 3 = pf) (ho : 0 ≤ (pc : Int) + o) (hp : ((pc : Int) + o).toNat = pt)
    (kT : ¬ (x < 0) → Go p e below s cm sm Q T (mkF m pt Ls St)) (kF : x < 0 → Go p e below s cm sm Q T (mkF m pf Ls St)) : Go p e below s cm sm Q T (mkF m pc Ls (.int x :: St)) :=
  w_if0 X hx hd hf ho hp (fun h => kT (h_ge.1 h)) (fun h => kF (h_ge.2 h))
theorem w_ifL_ge (X : Stand p l e R s m args below meth c T locs cells slots) (hx : p.tables.exec = Jvm.exec) {x y : Int64} {o : Int} {pt pf : Nat} (hd : decode c.code pc = .ok (.ifCond .ge o, 3)) (hf : pc + 3 = pf) (ho : 0 ≤ (pc : Int) + o) (hp : ((pc : Int) + o).toNat = pt)
    (kT : ¬ (x < y) → Go p e below s cm sm Q T (mkF m pt Ls St)) (kF : x < y → Go p e below s cm sm Q T (mkF m pf Ls St)) : Go p e below s cm sm Q T (mkF m pc Ls (.int (lcmpW x y) :: St)) :=
  w_if_ge X hx hd hf ho hp (fun q => kT (fun r => q ((lw_lt x y).2 r))) (fun q => kF ((lw_lt x y).1 q))
theorem w_icmp_gt (X : Stand p l e R s m args below meth c T locs cells slots) (hx : p.tables.exec = Jvm.exec) {x y : Int32} {o : Int} {pt pf : Nat} (hd : decode c.code pc = .ok (.if_icmp .gt o, 3)) (hf : pc + 3 = pf) (ho : 0 ≤ (pc : Int) + o) (hp : ((pc : Int) + o).toNat = pt)
    (kT : y < x → Go p e below s cm sm Q T (mkF m pt Ls St)) (kF : ¬ (y < x) → Go p e below s cm sm Q T (mkF m pf Ls St)) : Go p e below s cm sm Q T (mkF m pc Ls (.int y :: .int x :: St)) :=
  w_icmp0 X hx hd hf ho hp (fun h => kT (h_gt.1 h)) (fun h => kF (h_gt.2 h))
theorem w_if_gt (X : Stand p l e R s m args below meth c T locs cells slots) (hx : p.tables.exec = Jvm.exec) {x : Int32} {o : Int} {pt pf : Nat} (hd : decode c.code pc = .ok (.ifCond .gt o, 3)) (hf : pc + 3 = pf) (ho : 0 ≤ (pc : Int) + o) (hp : ((pc : Int) + o).toNat = pt)
    (kT : 0 < x → Go p e below s cm sm Q T (mkF m pt Ls St)) (kF : ¬ (0 < x) → Go p e below s cm sm Q T (mkF m pf Ls St)) : Go p e below s cm sm Q T (mkF m pc Ls (.int x :: St)) :=
  w_if0 X hx hd hf ho hp (fun h => kT (h_gt.1 h)) (fun h => kF (h_gt.2 h))
theorem w_ifL_gt (X : Stand p l e R s m args below meth c T locs cells slots) (hx : p.tables.exec = Jvm.exec) {x y : Int64} {o : Int} {pt pf : Nat} (hd : decode c.code pc = .ok (.ifCond .gt o, 3)) (hf : pc + 3 = pf) (ho : 0 ≤ (pc : Int) + o) (hp : ((pc : Int) + o).toNat = pt)
    (kT : y < x → Go p e below s cm sm Q T (mkF m pt Ls St)) (kF : ¬ (y < x) → Go p e below s cm sm Q T (mkF m pf Ls St)) : Go p e below s cm sm Q T (mkF m pc Ls (.int (lcmpW x y) :: St)) :=
  w_if_gt X hx hd hf ho hp (fun q => kT ((lw_gt x y).1 q)) (fun q => kF (fun r => q ((lw_gt x y).2 r)))
theorem w_icmp_le (X : Stand p l e R s m args below meth c T locs cells slots) (hx : p.tables.exec = Jvm.exec) {x y : Int32} {o : Int} {pt pf : Nat} (hd : decode c.code pc = .ok (.if_icmp .le o, 3)) (hf : pc + 3 = pf) (ho : 0 ≤ (pc : Int) + o) (hp : ((pc : Int) + o).toNat = pt)
    (kT : ¬ (y < x) → Go p e below s cm sm Q T (mkF m pt Ls St)) (kF : y < x → Go p e below s cm sm Q T (mkF m pf Ls St)) : Go p e below s cm sm Q T (mkF m pc Ls (.int y :: .int x :: St)) :=
  w_icmp0 X hx hd hf ho hp (fun h => kT (h_le.1 h)) (fun h => kF (h_le.2 h))
theorem w_if_le (X : Stand p l e R s m args below meth c T locs cells slots) (hx : p.tables.exec = Jvm.exec) {x : Int32} {o : Int} {pt pf : Nat} (hd : decode c.code pc = .ok (.ifCond .le o, 3)) (hf : pc + 3 = pf) (ho : 0 ≤ (pc : Int) + o) (hp : ((pc : Int) + o).toNat = pt)
    (kT : ¬ (0 < x) → Go p e below s cm sm Q T (mkF m pt Ls St)) (kF : 0 < x → Go p e below s cm sm Q T (mkF m pf Ls St)) : Go p e below s cm sm Q T (mkF m pc Ls (.int x :: St)) :=
  w_if0 X hx hd hf ho hp (fun h => kT (h_le.1 h)) (fun h => kF (h_le.2 h))
theorem w_ifL_le (X : Stand p l e R s m args below meth c T locs cells slots) (hx : p.tables.exec = Jvm.exec) {x y : Int64} {o : Int} {pt pf : Nat} (hd : decode c.code pc = .ok (.ifCond .le o, 3)) (hf : pc + 3 = pf) (ho : 0 ≤ (pc : Int) + o) (hp : ((pc : Int) + o).toNat = pt)
    (kT : ¬ (y < x) → Go p e below s cm sm Q T (mkF m pt Ls St)) (kF : y < x → Go p e below s cm sm Q T (mkF m pf Ls St)) : Go p e below s cm sm Q T (mkF m pc Ls (.int (lcmpW x y) :: St)) :=
  w_if_le X hx hd hf ho hp (fun q => kT (fun r => q ((lw_gt x y).2 r))) (fun q => kF ((lw_gt x y).1 q))
theorem w_icmp_eq (X : Stand p l e R s m args below meth c T locs cells slots) (hx : p.tables.exec = Jvm.exec) {x y : Int32} {o : Int} {pt pf : Nat} (hd : decode c.code pc = .ok (.if_icmp .eq o, 3)) (hf : pc + 3 = pf) (ho : 0 ≤ (pc : Int) + o) (hp : ((pc : Int) + o).toNat = pt)
    (kT : x = y → Go p e below s cm sm Q T (mkF m pt Ls St)) (kF : ¬ (x = y) → Go p e below s cm sm Q T (mkF m pf Ls St)) : Go p e below s cm sm Q T (mkF m pc Ls (.int y :: .int x :: St)) :=
  w_icmp0 X hx hd hf ho hp (fun h => kT (h_eq.1 h)) (fun h => kF (h_eq.2 h))
theorem w_if_eq (X : Stand p l e R s m args below meth c T locs cells slots) (hx : p.tables.exec = Jvm.exec) {x : Int32} {o : Int} {pt pf : Nat} (hd : decode c.code pc = .ok (.ifCond .eq o, 3)) (hf : pc + 3 = pf) (ho : 0 ≤ (pc : Int) + o) (hp : ((pc : Int) + o).toNat = pt)
    (kT : x = 0 → Go p e below s cm sm Q T (mkF m pt Ls St)) (kF : ¬ (x = 0) → Go p e below s cm sm Q T (mkF m pf Ls St)) : Go p e below s cm sm Q T (mkF m pc Ls (.int x :: St)) :=
  w_if0 X hx hd hf ho hp (fun h => kT (h_eq.1 h)) (fun h => kF (h_eq.2 h))
theorem w_ifL_eq (X : Stand p l e R s m args below meth c T locs cells slots) (hx : p.tables.exec = Jvm.exec) {x y : Int64} {o : Int} {pt pf : Nat} (hd : decode c.code pc = .ok (.ifCond .eq o, 3)) (hf : pc + 3 = pf) (ho : 0 ≤ (pc : Int) + o) (hp : ((pc : Int) + o).toNat = pt)
    (kT : x = y → Go p e below s cm sm Q T (mkF m pt Ls St)) (kF : ¬ (x = y) → Go p e below s cm sm Q T (mkF m pf Ls St)) : Go p e below s cm sm Q T (mkF m pc Ls (.int (lcmpW x y) :: St)) :=
  w_if_eq X hx hd hf ho hp (fun q => kT ((lw_eq x y).1 q)) (fun q => kF (fun r => q ((lw_eq x y).2 r)))
theorem w_icmp_ne (X : Stand p l e R s m args below meth c T locs cells slots) (hx : p.tables.exec = Jvm.exec) {x y : Int32} {o : Int} {pt pf : Nat} (hd : decode c.code pc = .ok (.if_icmp .ne o, 3)) (hf : pc + 3 = pf) (ho : 0 ≤ (pc : Int) + o) (hp : ((pc : Int) + o).toNat = pt)
    (kT : ¬ (x = y) → Go p e below s cm sm Q T (mkF m pt Ls St)) (kF : x = y → Go p e below s cm sm Q T (mkF m pf Ls St)) : Go p e below s cm sm Q T (mkF m pc Ls (.int y :: .int x :: St)) :=
  w_icmp0 X hx hd hf ho hp (fun h => kT (h_ne.1 h)) (fun h => kF (h_ne.2 h))
theorem w_if_ne (X : Stand p l e R s m args below meth c T locs cells slots) (hx : p.tables.exec = Jvm.exec) {x : Int32} {o : Int} {pt pf : Nat} (hd : decode c.code pc = .ok (.ifCond .ne o, 3)) (hf : pc + 3 = pf) (ho : 0 ≤ (pc : Int) + o) (hp : ((pc : Int) + o).toNat = pt)
    (kT : ¬ (x = 0) → Go p e below s cm sm Q T (mkF m pt Ls St)) (kF : x = 0 → Go p e below s cm sm Q T (mkF m pf Ls St)) : Go p e below s cm sm Q T (mkF m pc Ls (.int x :: St)) :=
  w_if0 X hx hd hf ho hp (fun h => kT (h_ne.1 h)) (fun h => kF (h_ne.2 h))
theorem w_ifL_ne (X : Stand p l e R s m args below meth c T locs cells slots) (hx : p.tables.exec = Jvm.exec) {x y : Int64} {o : Int} {pt pf : Nat} (hd : decode c.code pc = .ok (.ifCond .ne o, 3)) (hf : pc + 3 = pf) (ho : 0 ≤ (pc : Int) + o) (hp : ((pc : Int) + o).toNat = pt)
    (kT : ¬ (x = y) → Go p e below s cm sm Q T (mkF m pt Ls St)) (kF : x = y → Go p e below s cm sm Q T (mkF m pf Ls St)) : Go p e below s cm sm Q T (mkF m pc Ls (.int (lcmpW x y) :: St)) :=
  w_if_ne X hx hd hf ho hp (fun q => kT (fun r => q ((lw_eq x y).2 r))) (fun q => kF ((lw_eq x y).1 q))
theorem w_ldc (X : Stand p l e R s m args below meth c T locs cells slots) (hx : p.tables.exec = Jvm.exec) (hZ : Z.Warmed39 s.vm) {own : String} {index : Nat} {v : Int32} (hown : s.vm.findClass own = some m.cls) (w : (Jvm.Cond.constant own index v).before a0 Z = true) (hd : decode c.code pc = .ok (.ldc index, 2)) (hp : pc + 2 = pc')
    (kk : Go p e below s cm sm Q T (mkF m pc' Ls (.int v :: St))) : Go p e below s cm sm Q T (mkF m pc Ls St) := by
  subst hp
  exact Go.st (fun t q => X.ldcInt hx hown (mvT hZ w) (g := mkF m pc Ls St) rfl hd t q) kk
theorem w_ldcw (X : Stand p l e R s m args below meth c T locs cells slots) (hx : p.tables.exec = Jvm.exec) (hZ : Z.Warmed39 s.vm) {own : String} {index : Nat} {v : Int32} (hown : s.vm.findClass own = some m.cls) (w : (Jvm.Cond.constant own index v).before a0 Z = true) (hd : decode c.code pc = .ok (.ldc_w index, 3)) (hp : pc + 3 = pc')
    (kk : Go p e below s cm sm Q T (mkF m pc' Ls (.int v :: St))) : Go p e below s cm sm Q T (mkF m pc Ls St) := by
  subst hp
  exact Go.st (fun t q => X.ldcWI hx hown (mvT hZ w) (g := mkF m pc Ls St) rfl hd q) kk
theorem w_ldc2 (X : Stand p l e R s m args below meth c T locs cells slots) (hx : p.tables.exec = Jvm.exec) (hZ : Z.Warmed39 s.vm) {own : String} {index : Nat} {v : Int64} (hown : s.vm.findClass own = some m.cls) (w : (Jvm.Cond.constantLong own index v).before a0 Z = true) (hd : decode c.code pc = .ok (.ldc2_w index, 3)) (hp : pc + 3 = pc')
    (kk : Go p e below s cm sm Q T (mkF m pc' Ls (.long v :: St))) : Go p e below s cm sm Q T (mkF m pc Ls St) := by
  subst hp
  exact Go.st (fun t q => X.ldc2Long hx hown (mvT hZ w) (g := mkF m pc Ls St) rfl hd t q) kk
theorem w_retZ (X : Stand p l e R s m args below meth c T locs cells slots) (hx : p.tables.exec = Jvm.exec) (hret : meth.sig.returnType = some .boolean) (hlk : meth.locks = false) {z : Int32} (hd : decode c.code pc = .ok (.ireturn, 1)) (hc : cells ≤ cm) (hs : slots ≤ sm) (hQ : Q (some (.int (nar .boolean z))) T.heap locs) : Go p e below s cm sm Q T (mkF m pc Ls (.int z :: St)) := by
  obtain ⟨fs, hr, hrun, hended, hW, hsame⟩ := X.leave (v := some (.int (nar .boolean z))) (fun h => by rw [hret] at h; cases h) hlk
  exact ⟨_, _, retN X hx (t := .boolean) hret (by simp) hd hr, hrun, hended, _, _, rfl, hQ, ⟨_, rfl⟩, hW, hsame.mono hc hs⟩
theorem w_retB (X : Stand p l e R s m args below meth c T locs cells slots) (hx : p.tables.exec = Jvm.exec) (hret : meth.sig.returnType = some .byte) (hlk : meth.locks = false) {z : Int32} (hd : decode c.code pc = .ok (.ireturn, 1)) (hc : cells ≤ cm) (hs : slots ≤ sm) (hQ : Q (some (.int (nar .byte z))) T.heap locs) : Go p e below s cm sm Q T (mkF m pc Ls (.int z :: St)) := by
  obtain ⟨fs, hr, hrun, hended, hW, hsame⟩ := X.leave (v := some (.int (nar .byte z))) (fun h => by rw [hret] at h; cases h) hlk
  exact ⟨_, _, retN X hx (t := .byte) hret (by simp) hd hr, hrun, hended, _, _, rfl, hQ, ⟨_, rfl⟩, hW, hsame.mono hc hs⟩
theorem w_retC (X : Stand p l e R s m args below meth c T locs cells slots) (hx : p.tables.exec = Jvm.exec) (hret : meth.sig.returnType = some .char) (hlk : meth.locks = false) {z : Int32} (hd : decode c.code pc = .ok (.ireturn, 1)) (hc : cells ≤ cm) (hs : slots ≤ sm) (hQ : Q (some (.int (nar .char z))) T.heap locs) : Go p e below s cm sm Q T (mkF m pc Ls (.int z :: St)) := by
  obtain ⟨fs, hr, hrun, hended, hW, hsame⟩ := X.leave (v := some (.int (nar .char z))) (fun h => by rw [hret] at h; cases h) hlk
  exact ⟨_, _, retN X hx (t := .char) hret (by simp) hd hr, hrun, hended, _, _, rfl, hQ, ⟨_, rfl⟩, hW, hsame.mono hc hs⟩
theorem w_retS (X : Stand p l e R s m args below meth c T locs cells slots) (hx : p.tables.exec = Jvm.exec) (hret : meth.sig.returnType = some .short) (hlk : meth.locks = false) {z : Int32} (hd : decode c.code pc = .ok (.ireturn, 1)) (hc : cells ≤ cm) (hs : slots ≤ sm) (hQ : Q (some (.int (nar .short z))) T.heap locs) : Go p e below s cm sm Q T (mkF m pc Ls (.int z :: St)) := by
  obtain ⟨fs, hr, hrun, hended, hW, hsame⟩ := X.leave (v := some (.int (nar .short z))) (fun h => by rw [hret] at h; cases h) hlk
  exact ⟨_, _, retN X hx (t := .short) hret (by simp) hd hr, hrun, hended, _, _, rfl, hQ, ⟨_, rfl⟩, hW, hsame.mono hc hs⟩
theorem w_retI (X : Stand p l e R s m args below meth c T locs cells slots) (hx : p.tables.exec = Jvm.exec) (hret : meth.sig.returnType = some .int) (hlk : meth.locks = false) {z : Int32} (hd : decode c.code pc = .ok (.ireturn, 1)) (hc : cells ≤ cm) (hs : slots ≤ sm) (hQ : Q (some (.int z)) T.heap locs) : Go p e below s cm sm Q T (mkF m pc Ls (.int z :: St)) := by
  obtain ⟨fs, hr, hrun, hended, hW, hsame⟩ := X.leave (v := some (.int z)) (fun h => by rw [hret] at h; cases h) hlk
  refine ⟨T.setFrames fs, _, ?_, hrun, hended, _, _, rfl, hQ, ⟨_, rfl⟩, hW, hsame.mono hc hs⟩
  have hm' : T.vm.method? m = some meth := X.method'
  have hn : narrow .int (.int z) = .int z := rfl
  show Steps p.tables e below (T.setTop { method := m, pc := pc, locals := Ls, stack := .int z :: St, locked := none }) _
  jvm_step X.here [X.here.top, hx, hd, hm', hret, hn]
  first | (intro acts; rw [hr _ acts rfl rfl rfl]) | rw [hr _ _ rfl rfl rfl]
  exact Steps.refl _
theorem w_retJ (X : Stand p l e R s m args below meth c T locs cells slots) (hx : p.tables.exec = Jvm.exec) (hret : meth.sig.returnType = some .long) (hlk : meth.locks = false) {z : Int64} (hd : decode c.code pc = .ok (.lreturn, 1)) (hc : cells ≤ cm) (hs : slots ≤ sm) (hQ : Q (some (.long z)) T.heap locs) : Go p e below s cm sm Q T (mkF m pc Ls [.long z]) := by
  obtain ⟨fs, hr, hrun, hended, hW, hsame⟩ := X.leave (v := some (.long z)) (fun h => by rw [hret] at h; cases h) hlk
  exact ⟨T.setFrames fs, _, X.lreturnOut hx hret hd hr, hrun, hended, _, _, rfl, hQ, ⟨_, rfl⟩, hW, hsame.mono hc hs⟩
theorem w_retV (X : Stand p l e R s m args below meth c T locs cells slots) (hx : p.tables.exec = Jvm.exec) (hret : meth.sig.returnType = none) (hlk : meth.locks = false) (hd : decode c.code pc = .ok (.return_, 1)) (hc : cells ≤ cm) (hs : slots ≤ sm) (hQ : Q none T.heap locs) : Go p e below s cm sm Q T (mkF m pc Ls []) := by
  obtain ⟨fs, hr, hrun, hended, hW, hsame⟩ := X.leave (v := none) (fun _ => rfl) hlk
  exact ⟨T.setFrames fs, _, X.returnOut hx hret hd hr, hrun, hended, _, _, rfl, hQ, ⟨_, rfl⟩, hW, hsame.mono hc hs⟩
theorem w_retA (X : Stand p l e R s m args below meth c T locs cells slots) (hx : p.tables.exec = Jvm.exec) {rt : FieldType} (hret : meth.sig.returnType = some rt) (hrt : rt.isReference = true) (hlk : meth.locks = false) {a : Addr} (hd : decode c.code pc = .ok (.areturn, 1)) (hc : cells ≤ cm) (hs : slots ≤ sm) (hQ : Q (some (.ref a)) T.heap locs) : Go p e below s cm sm Q T (mkF m pc Ls (.ref a :: St)) := by
  obtain ⟨fs, hr, hrun, hended, hW, hsame⟩ := X.leave (v := some (.ref a)) (fun h => by rw [hret] at h; cases h) hlk
  refine ⟨T.setFrames fs, _, ?_, hrun, hended, _, _, rfl, hQ, ⟨_, rfl⟩, hW, hsame.mono hc hs⟩
  have hm' : T.vm.method? m = some meth := X.method'
  show Steps p.tables e below (T.setTop { method := m, pc := pc, locals := Ls, stack := .ref a :: St, locked := none }) _
  jvm_step X.here [X.here.top, hx, hd, hm', hret, Value.isRef, hrt]
  first | (intro acts; rw [hr _ acts rfl rfl rfl]) | rw [hr _ _ rfl rfl rfl]
  exact Steps.refl _
theorem Con.back {y : MethodName} {bytes : ByteArray} {maxL : Nat} {ret : Option FieldType} {rm : Room} {len W : Nat} {as' : Array Value} {Qc : Option Value → Heap → List Loc → Prop} (C : Con l Z y bytes maxL ret rm as' h Qc) (hZ : Z.Warmed39 s.vm) (wc : (Jvm.Cond.code y bytes maxL ret).before a0 Z = true) (wz : (Jvm.Cond.initialized y.cls).before a0 Z = true) (hf : rm.frames + 1 ≤ R.frames) (hl : W + (maxL + 11) + rm.locals ≤ R.locals) :
    Back l R p e below s args y len W (fun A a => a = as' ∧ A.U.heap = h ∧ A.cells + rm.cells ≤ R.cells ∧ A.slots + rm.slots ≤ R.slots) (fun A _ v B => ∃ L, Qc v B.U.heap L ∧ B.locs = A.locs ++ L ∧ B.cells = A.cells + rm.cells ∧ B.slots = A.slots + rm.slots) :=
  backOf (C []) hZ wc wz hf hl
theorem w_callS (X : Stand p l e R s m args below meth c T locs cells slots) (hx : p.tables.exec = Jvm.exec) (hZ : Z.Warmed39 s.vm) {own : String} {index : Nat} {y : MethodName} {bytes : ByteArray} {maxL : Nat} {ret : Option FieldType} {rm : Room} {W : Nat} {argsL rest : List Value} {Qc : Option Value → Heap → List Loc → Prop} (hown : s.vm.findClass own = some m.cls) (eT : T.heap = h) (C : Con l Z y bytes maxL ret rm argsL.toArray h Qc) (w1 : (Jvm.Cond.methodLink own index y).before a0 Z = true) (w2 : (Jvm.Cond.static y).before a0 Z = true) (w3 : (Jvm.Cond.initialized y.cls).before a0 Z = true) (w4 : (Jvm.Cond.code y bytes maxL ret).before a0 Z = true) (hy : y.cls ≠ "java/lang/invoke/MethodHandle" ∧ y.cls ≠ "java/lang/invoke/VarHandle")
    (hf : rm.frames + 1 ≤ R.frames) (hl : W + (maxL + 11) + rm.locals ≤ R.locals) (hc : cells + rm.cells ≤ R.cells) (hs : slots + rm.slots ≤ R.slots) (hsz : Ls.size = c.maxLocals) (hlen : ∀ sig, parseMethodDescriptor y.desc = some sig → argsL.length = sig.parameters.length) (hW : (rest.map fun v => v.category).sum ≤ W) (hst : St = argsL.reverse ++ rest) (hd : decode c.code pc = .ok (.invokestatic index, 3)) (hp : pc + 3 = pc')
    (kk : ∀ (T' : State) (L : List Loc) (v : Option Value), Stand p l e R s m args below meth c T' (locs ++ L) (cells + rm.cells) (slots + rm.slots) → Qc v T'.heap L → Go p e below s cm sm Q T' (mkF m pc' Ls (v.toList ++ rest))) : Go p e below s cm sm Q T (mkF m pc Ls St) := by
  subst hp hst
  obtain ⟨v, _, ⟨T1, L1, k1, n1⟩, -, X1, ⟨Lc, hQ, l1, y1, z1⟩, st⟩ := Jvm.LawKit.callS X hx (y := y) hown (mvT hZ w1) (mvT hZ w2) (mvT hZ w3) (mvT hZ w4) hy (C.back (W := W) hZ w4 w3 hf hl) (g := mkF m pc Ls (argsL.reverse ++ rest)) rfl hsz (argsL := argsL) (rest := rest) hlen rfl (by show 2 * 0 + _ ≤ _; rw [Nat.mul_zero, Nat.zero_add]; exact hW) hd (fun _ _ => ⟨rfl, eT, hc, hs⟩)
  dsimp only [Pt.U, Pt.locs, Pt.cells, Pt.slots] at X1 l1 y1 z1 st hQ
  subst l1 y1 z1
  exact Go.st st (kk _ _ _ X1 hQ)
theorem w_callI (X : Stand p l e R s m args below meth c T locs cells slots) (hx : p.tables.exec = Jvm.exec) (hZ : Z.Warmed39 s.vm) {own : String} {index : Nat} {y : MethodName} {bytes : ByteArray} {maxL : Nat} {rm : Room} {W : Nat} {argsL rest : List Value} {Qc : Option Value → Heap → List Loc → Prop} {a : Addr} (hown : s.vm.findClass own = some m.cls) (eT : T.heap = h) (C : Con l Z y bytes maxL none rm (.ref a :: argsL).toArray h Qc) (hn : y.name = "<init>") (w1 : (Jvm.Cond.methodLink own index y).before a0 Z = true) (w2 : (Jvm.Cond.instanceMethod y).before a0 Z = true) (w3 : (Jvm.Cond.initialized y.cls).before a0 Z = true) (w4 : (Jvm.Cond.code y bytes maxL none).before a0 Z = true) (hy : y.cls ≠ "java/lang/invoke/MethodHandle" ∧ y.cls ≠ "java/lang/invoke/VarHandle")
    (hf : rm.frames + 1 ≤ R.frames) (hl : W + (maxL + 11) + rm.locals ≤ R.locals) (hc : cells + rm.cells ≤ R.cells) (hs : slots + rm.slots ≤ R.slots) (hsz : Ls.size = c.maxLocals) (hlen : ∀ sig, parseMethodDescriptor y.desc = some sig → argsL.length = sig.parameters.length) (hW : (rest.map fun v => v.category).sum ≤ W) (hst : St = argsL.reverse ++ .ref a :: rest) (hd : decode c.code pc = .ok (.invokespecial index, 3)) (hp : pc + 3 = pc')
    (kk : ∀ (T' : State) (L : List Loc) (v : Option Value), Stand p l e R s m args below meth c T' (locs ++ L) (cells + rm.cells) (slots + rm.slots) → Qc v T'.heap L → Go p e below s cm sm Q T' (mkF m pc' Ls (v.toList ++ rest))) : Go p e below s cm sm Q T (mkF m pc Ls St) := by
  subst hp hst
  obtain ⟨v, _, ⟨T1, L1, k1, n1⟩, -, X1, ⟨Lc, hQ, l1, y1, z1⟩, st⟩ := X.specialBack hx (y := y) hn hown (mvT hZ w1) (mvT hZ w2) (mvT hZ w4) hy (C.back (W := W) hZ w4 w3 hf hl) (g := mkF m pc Ls (argsL.reverse ++ .ref a :: rest)) rfl hsz (Steps.refl _) (a := a) (argsL := argsL) (rest := rest) hlen rfl (by show 2 * 0 + _ ≤ _; rw [Nat.mul_zero, Nat.zero_add]; exact hW) hd (fun _ _ => ⟨rfl, eT, hc, hs⟩)
  dsimp only [Pt.U, Pt.locs, Pt.cells, Pt.slots] at X1 l1 y1 z1 st hQ
  subst l1 y1 z1
  exact Go.st (fun t q => st.trans q) (kk _ _ _ X1 hQ)
theorem w_callV (X : Stand p l e R s m args below meth c T locs cells slots) (hx : p.tables.exec = Jvm.exec) (hZ : Z.Warmed39 s.vm) {own : String} {index : Nat} {y : MethodName} {bytes : ByteArray} {maxL : Nat} {ret : Option FieldType} {rm : Room} {W : Nat} {argsL rest : List Value} {Qc : Option Value → Heap → List Loc → Prop} {a : Addr} (hown : s.vm.findClass own = some m.cls) (eT : T.heap = h) (E : Exa Z h a y.cls) (C : Con l Z y bytes maxL ret rm (.ref a :: argsL).toArray h Qc) (w1 : (Jvm.Cond.methodLink own index y).before a0 Z = true) (wd : (Jvm.Cond.declares y).before a0 Z = true) (ws : (Jvm.Cond.selects y.cls y y).before a0 Z = true) (w2 : (Jvm.Cond.instanceMethod y).before a0 Z = true) (w3 : (Jvm.Cond.initialized y.cls).before a0 Z = true) (w4 : (Jvm.Cond.code y bytes maxL ret).before a0 Z = true) (hy : y.cls ≠ "java/lang/invoke/MethodHandle" ∧ y.cls ≠ "java/lang/invoke/VarHandle")
    (hf : rm.frames + 1 ≤ R.frames) (hl : W + (maxL + 11) + rm.locals ≤ R.locals) (hc : cells + rm.cells ≤ R.cells) (hs : slots + rm.slots ≤ R.slots) (hsz : Ls.size = c.maxLocals) (hlen : ∀ sig, parseMethodDescriptor y.desc = some sig → argsL.length = sig.parameters.length) (hW : (rest.map fun v => v.category).sum ≤ W) (hst : St = argsL.reverse ++ .ref a :: rest) (hd : decode c.code pc = .ok (.invokevirtual index, 3)) (hp : pc + 3 = pc')
    (kk : ∀ (T' : State) (L : List Loc) (v : Option Value), Stand p l e R s m args below meth c T' (locs ++ L) (cells + rm.cells) (slots + rm.slots) → Qc v T'.heap L → Go p e below s cm sm Q T' (mkF m pc' Ls (v.toList ++ rest))) : Go p e below s cm sm Q T (mkF m pc Ls St) := by
  subst hp hst
  obtain ⟨cq, kq, qa, qb, qc⟩ := isOf hZ eT E
  obtain ⟨v, _, ⟨T1, L1, k1, n1⟩, -, X1, ⟨Lc, hQ, l1, y1, z1⟩, st⟩ := X.virtualBack hx (y := y) (z := y) hown (mvT hZ w1) (mvT hZ wd) (notFace_of_selects (args := #[]) (mvT hZ ws)) (mvT hZ ws) (mvT hZ w2) hy (C.back (W := W) hZ w4 w3 hf hl) qa qc (g := mkF m pc Ls (argsL.reverse ++ .ref a :: rest)) rfl hsz (Steps.refl _) (argsL := argsL) (rest := rest) hlen rfl (by show 2 * 0 + _ ≤ _; rw [Nat.mul_zero, Nat.zero_add]; exact hW) hd (fun _ _ => ⟨rfl, eT, hc, hs⟩)
  dsimp only [Pt.U, Pt.locs, Pt.cells, Pt.slots] at X1 l1 y1 z1 st hQ
  subst l1 y1 z1
  exact Go.st (fun t q => st.trans q) (kk _ _ _ X1 hQ)
theorem w_initO (X : Stand p l e R s m args below meth c T locs cells slots) (hx : p.tables.exec = Jvm.exec) (hZ : Z.Warmed39 s.vm) {own : String} {index : Nat} {a : Addr} (hown : s.vm.findClass own = some m.cls) (eT : T.heap = h) (w1 : (Jvm.Cond.methodLink own index Lib.objectInit).before a0 Z = true) (w2 : (Jvm.Cond.instanceMethod Lib.objectInit).before a0 Z = true) (w3 : (Jvm.Cond.code Lib.objectInit ⟨#[0xb1]⟩ 1 none).before a0 Z = true) (hsz : Ls.size = c.maxLocals) (hd : decode c.code pc = .ok (.invokespecial index, 3)) (hf : 1 ≤ R.frames) {W : Nat} (hW : (St.map fun v => v.category).sum ≤ W) (hl : W + 12 ≤ R.locals) (hp : pc + 3 = pc')
    (kk : ∀ T' : State, Stand p l e R s m args below meth c T' locs cells slots → T'.heap = h → Go p e below s cm sm Q T' (mkF m pc' Ls St)) : Go p e below s cm sm Q T (mkF m pc Ls (.ref a :: St)) := by
  subst hp
  obtain ⟨T1, X1, e1, st⟩ := initO X hx hZ hown w1 w2 w3 eT (g := mkF m pc Ls (.ref a :: St)) rfl hsz rfl hd hf (W := W) (by show 2 * 0 + _ ≤ _; rw [Nat.mul_zero, Nat.zero_add]; exact hW) hl
  exact Go.st st (kk _ X1 e1)
theorem w_getF (X : Stand p l e R s m args below meth c T locs cells slots) (hx : p.tables.exec = Jvm.exec) (hZ : Z.Warmed39 s.vm) {own O n d : String} {index : Nat} {a : Addr} {v : Value} (hown : s.vm.findClass own = some m.cls) (eT : T.heap = h) (F : Fld Z h a O n d v) (w : (Jvm.Cond.fieldLink own index O n d).before a0 Z = true) (hd : decode c.code pc = .ok (.getfield index, 3)) (hp : pc + 3 = pc')
    (kk : ∀ T' : State, Stand p l e R s m args below meth c T' locs cells slots → T'.heap = h → Go p e below s cm sm Q T' (mkF m pc' Ls (v :: St))) : Go p e below s cm sm Q T (mkF m pc Ls (.ref a :: St)) := by
  subst hp
  obtain ⟨T1, X1, e1, st⟩ := getF X hx hZ hown (host := "") (Or.inl w) Via.refl eT F (g := mkF m pc Ls (.ref a :: St)) rfl rfl hd
  exact Go.st st (kk _ X1 e1)
theorem w_putF (X : Stand p l e R s m args below meth c T locs cells slots) (hx : p.tables.exec = Jvm.exec) (hZ : Z.Warmed39 s.vm) {own O n d C : String} {index kn : Nat} {ty : FieldType} {a : Addr} {v old : Value} (hown : s.vm.findClass own = some m.cls) (eT : T.heap = h) (F : Fld Z h a O n d old) (E : Exa Z h a C) (w : (Jvm.Cond.fieldLink own index O n d).before a0 Z = true) (L : (Jvm.Cond.lays C O n d).before a0 Z = true ∨ ((Jvm.Cond.laysFinal C O n d).before a0 Z = true ∧ own = O ∧ meth.name = "<init>")) (wi : (Jvm.Cond.instantiable C kn).before a0 Z = true) (hty : parseFieldDescriptor d = some ty) (hn : narrow ty v = v) (hf : fits ty v = true) (hd : decode c.code pc = .ok (.putfield index, 3)) (hp : pc + 3 = pc')
    (kk : ∀ (T' : State) (h' : Heap), Stand p l e R s m args below meth c T' (locs ++ [⟨a, RoadKit.slotOf Z O n d⟩]) cells slots → T'.heap = h' → Wr h h' a (RoadKit.slotOf Z O n d) v → Go p e below s cm sm Q T' (mkF m pc' Ls St)) : Go p e below s cm sm Q T (mkF m pc Ls (v :: .ref a :: St)) := by
  subst hp
  obtain ⟨T1, h1, X1, e1, W1, st⟩ := putF X hx hZ hown (host := "") (Or.inl w) Via.refl eT F E L wi hty hn hf (g := mkF m pc Ls (v :: .ref a :: St)) rfl rfl hd
  exact Go.st st (kk _ _ X1 e1 W1)
theorem w_newO (X : Stand p l e R s m args below meth c T locs cells slots) (hx : p.tables.exec = Jvm.exec) (hZ : Z.Warmed39 s.vm) {own C : String} {index kn : Nat} (hown : s.vm.findClass own = some m.cls) (eT : T.heap = h) (w : (Jvm.Cond.classLink own index C).before a0 Z = true) (wi : (Jvm.Cond.instantiable C kn).before a0 Z = true) (wz : (Jvm.Cond.initialized C).before a0 Z = true) (hd : decode c.code pc = .ok (.new index, 3)) (hc : cells + 1 ≤ R.cells) (hl : slots + kn ≤ R.slots) (hp : pc + 3 = pc')
    (kk : ∀ (T' : State) (h' : Heap) (b : Addr), Stand p l e R s m args below meth c T' locs (cells + 1) (slots + kn) → T'.heap = h' → Ext h h' → b = h.size → Exa Z h' b C → (∀ {O nm d : String} {ty : FieldType}, Laid Z a0 C O nm d → parseFieldDescriptor d = some ty → Fld Z h' b O nm d (defaultValue ty)) → Go p e below s cm sm Q T' (mkF m pc' Ls (.ref b :: St))) : Go p e below s cm sm Q T (mkF m pc Ls St) := by
  subst hp
  obtain ⟨T1, h1, X1, e1, E1, A1, D1, -, st⟩ := newO X hx hZ hown w wi wz eT (g := mkF m pc Ls St) rfl hd hc hl
  exact Go.st st (kk _ _ _ X1 e1 E1 rfl A1 D1)
/-- an array of ints, bytes, chars, shorts or booleans, by its list -/
def AI (Z : State) (h : Heap) (a : Addr) (ty : FieldType) (vs : List Int32) : Prop := ∃ c : Cell, Arr Z h a c ty ∧ c.slots.toList = vs.map Value.int ∧ vs.length < 2147483648 ∧ Z.vm.findClass ("[" ++ ty.toString) = some c.cls
/-- an array of longs, by its list -/
def AJ (Z : State) (h : Heap) (a : Addr) (vs : List Int64) : Prop := ∃ c : Cell, Arr Z h a c .long ∧ c.slots.toList = vs.map Value.long ∧ vs.length < 2147483648 ∧ Z.vm.findClass "[J" = some c.cls
theorem AI.lt {a : Addr} {ty : FieldType} {vs : List Int32} (F : AI Z h a ty vs) : a < h.size := by obtain ⟨c, q, -⟩ := F; exact q.lt
theorem AI.ext {a : Addr} {ty : FieldType} {vs : List Int32} (F : AI Z h a ty vs) (E : Ext h h') : AI Z h' a ty vs := by obtain ⟨c, q, r⟩ := F; exact ⟨c, q.ext E, r⟩
theorem AI.other {a b : Addr} {ty : FieldType} {vs : List Int32} {sl : Nat} {v : Value} (F : AI Z h a ty vs) (W : Wr h h' b sl v) (q : a ≠ b) : AI Z h' a ty vs := by obtain ⟨c, A, r⟩ := F; exact ⟨c, A.other W q, r⟩
theorem AI.keep {a : Addr} {ty : FieldType} {vs : List Int32} {ws : List Addr} (F : AI Z h a ty vs) (K : Keep h h' ws) (q : a ∉ ws) : AI Z h' a ty vs := by obtain ⟨c, A, r⟩ := F; exact ⟨c, ⟨K.2.1 a c A.1 q, A.2⟩, r⟩
theorem AI.new {a : Addr} {k : ClassId} {z : Int32} {ty : FieldType} (A : Arr Z h a (newA k ty z) ty) (hd : defaultValue ty = .int 0) (hcl : Z.vm.findClass ("[" ++ ty.toString) = some k) : AI Z h a ty (List.replicate z.toNatClampNeg 0) := by
  refine ⟨_, A, ?_, ?_, hcl⟩
  · simp [newA, hd]
  · have := z.toInt_lt; rw [List.length_replicate]; show z.toInt.toNat < _; omega
theorem AI.wr {a : Addr} {ty : FieldType} {vs : List Int32} {j : Nat} {x : Int32} (F : AI Z h a ty vs) (W : Wr h h' a j (Value.int x)) : AI Z h' a ty (vs.set j x) := by
  obtain ⟨c, A, q, r⟩ := F
  refine ⟨_, A.same W, ?_, by simpa using r.1, r.2⟩
  simp [Cell.setSlot, q, List.map_set]
theorem AI.len {a : Addr} {ty : FieldType} {vs : List Int32} (F : AI Z h a ty vs) : vs.length < 2147483648 := by obtain ⟨c, q, r, t, -⟩ := F; exact t
theorem AI.sz {vs : List Int32} {c : Cell} (q : c.slots.toList = vs.map Value.int) : c.slots.size = vs.length := by
  have := congrArg List.length q; simpa using this
theorem AI.at {vs : List Int32} {c : Cell} {j : Nat} {x : Int32} (q : c.slots.toList = vs.map Value.int) (hv : vs[j]? = some x) : c.slots[j]? = some (Value.int x) := by
  rw [← Array.getElem?_toList, q]; simp [hv]
theorem AI.inb {vs : List Int32} {c : Cell} {j : Int32} (q : c.slots.toList = vs.map Value.int) (hj : ¬ j < 0) (hl : j.toNatClampNeg < vs.length) : ¬ (j < 0 ∨ c.slots.size ≤ j.toNatClampNeg) := by
  have := AI.sz q
  rw [this]
  rintro (r | r)
  · exact hj r
  · omega
theorem AJ.lt {a : Addr} {vs : List Int64} (F : AJ Z h a vs) : a < h.size := by obtain ⟨c, q, -⟩ := F; exact q.lt
theorem AJ.ext {a : Addr} {vs : List Int64} (F : AJ Z h a vs) (E : Ext h h') : AJ Z h' a vs := by obtain ⟨c, q, r⟩ := F; exact ⟨c, q.ext E, r⟩
theorem AJ.other {a b : Addr} {vs : List Int64} {sl : Nat} {v : Value} (F : AJ Z h a vs) (W : Wr h h' b sl v) (q : a ≠ b) : AJ Z h' a vs := by obtain ⟨c, A, r⟩ := F; exact ⟨c, A.other W q, r⟩
theorem AJ.keep {a : Addr} {vs : List Int64} {ws : List Addr} (F : AJ Z h a vs) (K : Keep h h' ws) (q : a ∉ ws) : AJ Z h' a vs := by obtain ⟨c, A, r⟩ := F; exact ⟨c, ⟨K.2.1 a c A.1 q, A.2⟩, r⟩
theorem AJ.new {a : Addr} {k : ClassId} {z : Int32} (A : Arr Z h a (newA k .long z) .long) (hcl : Z.vm.findClass "[J" = some k) : AJ Z h a (List.replicate z.toNatClampNeg 0) := by
  refine ⟨_, A, ?_, ?_, hcl⟩
  · simp [newA, defaultValue]
  · have := z.toInt_lt; rw [List.length_replicate]; show z.toInt.toNat < _; omega
theorem AJ.wr {a : Addr} {vs : List Int64} {j : Nat} {x : Int64} (F : AJ Z h a vs) (W : Wr h h' a j (Value.long x)) : AJ Z h' a (vs.set j x) := by
  obtain ⟨c, A, q, r⟩ := F
  refine ⟨_, A.same W, ?_, by simpa using r.1, r.2⟩
  simp [Cell.setSlot, q, List.map_set]
theorem AJ.len {a : Addr} {vs : List Int64} (F : AJ Z h a vs) : vs.length < 2147483648 := by obtain ⟨c, q, r, t, -⟩ := F; exact t
theorem AJ.sz {vs : List Int64} {c : Cell} (q : c.slots.toList = vs.map Value.long) : c.slots.size = vs.length := by
  have := congrArg List.length q; simpa using this
theorem AJ.at {vs : List Int64} {c : Cell} {j : Nat} {x : Int64} (q : c.slots.toList = vs.map Value.long) (hv : vs[j]? = some x) : c.slots[j]? = some (Value.long x) := by
  rw [← Array.getElem?_toList, q]; simp [hv]
theorem AJ.inb {vs : List Int64} {c : Cell} {j : Int32} (q : c.slots.toList = vs.map Value.long) (hj : ¬ j < 0) (hl : j.toNatClampNeg < vs.length) : ¬ (j < 0 ∨ c.slots.size ≤ j.toNatClampNeg) := by
  have := AJ.sz q
  rw [this]
  rintro (r | r)
  · exact hj r
  · omega
theorem w_iaload (X : Stand p l e R s m args below meth c T locs cells slots) (hx : p.tables.exec = Jvm.exec) (hZ : Z.Warmed39 s.vm) {a : Addr} {vs : List Int32} {j : Int32} {v : Int32} (eT : T.heap = h) (F : AI Z h a .int vs) (hj : ¬ j < 0) (hv : vs[j.toNatClampNeg]? = some v) (hd : decode c.code pc = .ok (.iaload, 1)) (hp : pc + 1 = pc')
    (kk : Go p e below s cm sm Q T (mkF m pc' Ls (Value.int v :: St))) : Go p e below s cm sm Q T (mkF m pc Ls (.int j :: .ref a :: St)) := by
  subst hp
  obtain ⟨cl, A, q, r⟩ := F
  exact Go.st (fun t k => X.iaload hx (j := j) (v := Value.int v) (by rw [eT]; exact A.1) (State.isArrayOf_alike hZ.alike A.2.1) A.2.2 (AI.inb q hj (List.getElem?_eq_some_iff.mp hv).1) (AI.at q hv) (g := mkF m pc Ls (.int j :: .ref a :: St)) rfl rfl hd t k) kk
theorem w_baload (X : Stand p l e R s m args below meth c T locs cells slots) (hx : p.tables.exec = Jvm.exec) (hZ : Z.Warmed39 s.vm) {a : Addr} {vs : List Int32} {j : Int32} {v : Int32} (eT : T.heap = h) (F : AI Z h a .byte vs) (hj : ¬ j < 0) (hv : vs[j.toNatClampNeg]? = some v) (hd : decode c.code pc = .ok (.baload, 1)) (hp : pc + 1 = pc')
    (kk : Go p e below s cm sm Q T (mkF m pc' Ls (Value.int v :: St))) : Go p e below s cm sm Q T (mkF m pc Ls (.int j :: .ref a :: St)) := by
  subst hp
  obtain ⟨cl, A, q, r⟩ := F
  exact Go.st (fun t k => X.baloadBytes hx (j := j) (v := Value.int v) (by rw [eT]; exact A.1) (State.isArrayOf_alike hZ.alike A.2.1) A.2.2 (AI.inb q hj (List.getElem?_eq_some_iff.mp hv).1) (AI.at q hv) (g := mkF m pc Ls (.int j :: .ref a :: St)) rfl rfl hd t k) kk
theorem w_laload (X : Stand p l e R s m args below meth c T locs cells slots) (hx : p.tables.exec = Jvm.exec) (hZ : Z.Warmed39 s.vm) {a : Addr} {vs : List Int64} {j : Int32} {v : Int64} (eT : T.heap = h) (F : AJ Z h a vs) (hj : ¬ j < 0) (hv : vs[j.toNatClampNeg]? = some v) (hd : decode c.code pc = .ok (.laload, 1)) (hp : pc + 1 = pc')
    (kk : Go p e below s cm sm Q T (mkF m pc' Ls (Value.long v :: St))) : Go p e below s cm sm Q T (mkF m pc Ls (.int j :: .ref a :: St)) := by
  subst hp
  obtain ⟨cl, A, q, r⟩ := F
  exact Go.st (fun t k => X.laload hx (j := j) (v := Value.long v) (by rw [eT]; exact A.1) (State.isArrayOf_alike hZ.alike A.2.1) A.2.2 (AJ.inb q hj (List.getElem?_eq_some_iff.mp hv).1) (AJ.at q hv) (g := mkF m pc Ls (.int j :: .ref a :: St)) rfl rfl hd t k) kk
theorem w_iastore (X : Stand p l e R s m args below meth c T locs cells slots) (hx : p.tables.exec = Jvm.exec) (hZ : Z.Warmed39 s.vm) {a : Addr} {vs : List Int32} {j : Int32} {x : Int32} (eT : T.heap = h) (F : AI Z h a .int vs) (hj : ¬ j < 0) (hl : j.toNatClampNeg < vs.length) (hd : decode c.code pc = .ok (.iastore, 1)) (hp : pc + 1 = pc')
    (kk : ∀ (T' : State) (h' : Heap), Stand p l e R s m args below meth c T' (locs ++ [⟨a, j.toNatClampNeg⟩]) cells slots → T'.heap = h' → Wr h h' a j.toNatClampNeg (Value.int x) → AI Z h' a .int (vs.set j.toNatClampNeg x) → Go p e below s cm sm Q T' (mkF m pc' Ls St)) : Go p e below s cm sm Q T (mkF m pc Ls (Value.int x :: .int j :: .ref a :: St)) := by
  subst hp
  obtain ⟨cl, A, q, r⟩ := F
  obtain ⟨T1, h1, X1, e1, W1, st⟩ := RoadKit.stI X hx hZ eT A (j := j) (x := x) (AI.inb q hj hl) (g := mkF m pc Ls (Value.int x :: .int j :: .ref a :: St)) rfl rfl hd
  exact Go.st st (kk _ _ X1 e1 W1 (AI.wr ⟨cl, A, q, r⟩ W1))
theorem w_bastore (X : Stand p l e R s m args below meth c T locs cells slots) (hx : p.tables.exec = Jvm.exec) (hZ : Z.Warmed39 s.vm) {a : Addr} {vs : List Int32} {j : Int32} {x : Int32} (eT : T.heap = h) (F : AI Z h a .byte vs) (hj : ¬ j < 0) (hl : j.toNatClampNeg < vs.length) (hd : decode c.code pc = .ok (.bastore, 1)) (hp : pc + 1 = pc')
    (kk : ∀ (T' : State) (h' : Heap), Stand p l e R s m args below meth c T' (locs ++ [⟨a, j.toNatClampNeg⟩]) cells slots → T'.heap = h' → Wr h h' a j.toNatClampNeg (Value.int (nar .byte x)) → AI Z h' a .byte (vs.set j.toNatClampNeg (nar .byte x)) → Go p e below s cm sm Q T' (mkF m pc' Ls St)) : Go p e below s cm sm Q T (mkF m pc Ls (Value.int x :: .int j :: .ref a :: St)) := by
  subst hp
  obtain ⟨cl, A, q, r⟩ := F
  obtain ⟨T1, h1, X1, e1, W1, st⟩ := RoadKit.stB X hx hZ eT A (j := j) (x := x) (AI.inb q hj hl) (g := mkF m pc Ls (Value.int x :: .int j :: .ref a :: St)) rfl rfl hd
  exact Go.st st (kk _ _ X1 e1 W1 (AI.wr ⟨cl, A, q, r⟩ W1))
theorem w_lastore (X : Stand p l e R s m args below meth c T locs cells slots) (hx : p.tables.exec = Jvm.exec) (hZ : Z.Warmed39 s.vm) {a : Addr} {vs : List Int64} {j : Int32} {x : Int64} (eT : T.heap = h) (F : AJ Z h a vs) (hj : ¬ j < 0) (hl : j.toNatClampNeg < vs.length) (hd : decode c.code pc = .ok (.lastore, 1)) (hp : pc + 1 = pc')
    (kk : ∀ (T' : State) (h' : Heap), Stand p l e R s m args below meth c T' (locs ++ [⟨a, j.toNatClampNeg⟩]) cells slots → T'.heap = h' → Wr h h' a j.toNatClampNeg (Value.long x) → AJ Z h' a (vs.set j.toNatClampNeg x) → Go p e below s cm sm Q T' (mkF m pc' Ls St)) : Go p e below s cm sm Q T (mkF m pc Ls (Value.long x :: .int j :: .ref a :: St)) := by
  subst hp
  obtain ⟨cl, A, q, r⟩ := F
  obtain ⟨T1, h1, X1, e1, W1, st⟩ := RoadKit.stJ X hx hZ eT A (j := j) (x := x) (AJ.inb q hj hl) (g := mkF m pc Ls (Value.long x :: .int j :: .ref a :: St)) rfl rfl hd
  exact Go.st st (kk _ _ X1 e1 W1 (AJ.wr ⟨cl, A, q, r⟩ W1))
theorem w_alenI (X : Stand p l e R s m args below meth c T locs cells slots) (hx : p.tables.exec = Jvm.exec) (hZ : Z.Warmed39 s.vm) {a : Addr} {ty : FieldType} {vs : List Int32} {n : Int32} (eT : T.heap = h) (F : AI Z h a ty vs) (hn : vs.length.toInt32 = n) (hd : decode c.code pc = .ok (.arraylength, 1)) (hp : pc + 1 = pc')
    (kk : Go p e below s cm sm Q T (mkF m pc' Ls (.int n :: St))) : Go p e below s cm sm Q T (mkF m pc Ls (.ref a :: St)) := by
  subst hp hn
  obtain ⟨cl, A, q, r⟩ := F
  have hs := AI.sz q
  exact Go.st (fun t k => X.arraylength hx (by rw [eT]; exact A.1) (State.isArrayOf_alike hZ.alike A.2.1) (g := mkF m pc Ls (.ref a :: St)) rfl rfl hd t (by rw [hs]; exact k)) kk
theorem w_alenJ (X : Stand p l e R s m args below meth c T locs cells slots) (hx : p.tables.exec = Jvm.exec) (hZ : Z.Warmed39 s.vm) {a : Addr} {vs : List Int64} {n : Int32} (eT : T.heap = h) (F : AJ Z h a vs) (hn : vs.length.toInt32 = n) (hd : decode c.code pc = .ok (.arraylength, 1)) (hp : pc + 1 = pc')
    (kk : Go p e below s cm sm Q T (mkF m pc' Ls (.int n :: St))) : Go p e below s cm sm Q T (mkF m pc Ls (.ref a :: St)) := by
  subst hp hn
  obtain ⟨cl, A, q, r⟩ := F
  have hs := AJ.sz q
  exact Go.st (fun t k => X.arraylength hx (by rw [eT]; exact A.1) (State.isArrayOf_alike hZ.alike A.2.1) (g := mkF m pc Ls (.ref a :: St)) rfl rfl hd t (by rw [hs]; exact k)) kk
theorem w_up {c' s' : Nat} (X : Stand p l e R s m args below meth c T locs cells slots) (h1 : cells ≤ c') (h2 : slots ≤ s') : Stand p l e R s m args below meth c T locs c' s' :=
  ⟨X.admits, X.cas, X.clock, X.frames, X.room, X.hears, X.method, X.code, X.here, X.tail, X.warmed, X.limits, X.bytes, X.same.mono h1 h2⟩
/-- newarray, with the class of what is made -/
theorem newC (X : Stand p l e R s m args below meth c T locs cells slots) (hx : p.tables.exec = Jvm.exec) (hZ : Z.Warmed39 s.vm) {aty : ArrayType} (w : (Jvm.Cond.arrayClass (newarray.typeOf aty)).before a0 Z = true) (eT : T.heap = h) {g : JFrame} (hg : g.method = m) (hd : decode c.code g.pc = .ok (.newarray aty, 2)) {n : Int32} {rest : List Value} (hs : g.stack = .int n :: rest)
    (hn : ¬ n < 0) {cap : Nat} (hcap : n.toNatClampNeg ≤ cap) (hb : cap * 8 ≤ 536870912) (hc : cells + 1 ≤ R.cells) (hl : slots + cap ≤ R.slots) :
    ∃ T' h' k, Stand p l e R s m args below meth c T' locs (cells + 1) (slots + cap) ∧ T'.heap = h' ∧ Ext h h' ∧ Arr Z h' h.size (newA k (newarray.typeOf aty) n) (newarray.typeOf aty) ∧ Z.vm.findClass ("[" ++ (newarray.typeOf aty).toString) = some k ∧
      ∀ target, Steps p.tables e below (T'.setTop { g with pc := g.pc + 2, stack := .ref h.size :: rest }) target → Steps p.tables e below (T.setTop g) target := by
  have h8 : componentBytes (newarray.typeOf aty) ≤ 8 := by cases aty <;> decide
  have hsz : n.toNatClampNeg * componentBytes (newarray.typeOf aty) ≤ 536870912 := Nat.le_trans (Nat.mul_le_mul hcap h8) hb
  obtain ⟨k, kA, comp, c1, c2, c3, X', st⟩ := X.newarrayPrim hx (mvA hZ w) hg hd hs hn hsz hc (by omega)
  subst eT
  have hk : s.isArrayOf (newA k (newarray.typeOf aty) n) (newarray.typeOf aty) := ⟨by simp [newA], kA, c2, comp, c3⟩
  refine ⟨_, _, k, w_up X' (Nat.le_refl _) (by omega), rfl, ⟨by show T.heap.size ≤ (T.heap.push _).size; simp, fun a q hq => ?_⟩, ⟨by show (T.heap.push _)[T.heap.size]? = _; simp [newA], State.isArrayOf_alike hZ.alike.symm hk, by simp [newA]⟩, by rw [← hZ.alike.findClass]; exact c1, st⟩
  show (T.heap.push _)[a]? = _
  rw [Array.getElem?_push, if_neg (Nat.ne_of_lt (Array.getElem?_eq_some_iff.mp hq).1)]
  exact hq
theorem w_newI (X : Stand p l e R s m args below meth c T locs cells slots) (hx : p.tables.exec = Jvm.exec) (hZ : Z.Warmed39 s.vm) {n : Int32} {cap : Nat} (eT : T.heap = h) (w : (Jvm.Cond.arrayClass .int).before a0 Z = true) (hn : ¬ n < 0) (hcap : n.toNatClampNeg ≤ cap) (hb : cap * 8 ≤ 536870912) (hc : cells + 1 ≤ R.cells) (hl : slots + cap ≤ R.slots) (hd : decode c.code pc = .ok (.newarray .int, 2)) (hp : pc + 2 = pc')
    (kk : ∀ (T' : State) (h' : Heap) (b : Addr), Stand p l e R s m args below meth c T' locs (cells + 1) (slots + cap) → T'.heap = h' → Ext h h' → b = h.size → AI Z h' b .int (List.replicate n.toNatClampNeg 0) → Go p e below s cm sm Q T' (mkF m pc' Ls (.ref b :: St))) : Go p e below s cm sm Q T (mkF m pc Ls (.int n :: St)) := by
  subst hp
  obtain ⟨T1, h1, k1, X1, e1, E1, A1, C1, st⟩ := newC X hx hZ (aty := .int) w eT (g := mkF m pc Ls (.int n :: St)) rfl hd rfl hn (cap := cap) hcap hb hc hl
  exact Go.st st (kk _ _ _ X1 e1 E1 rfl (AI.new A1 rfl C1))
theorem w_newB (X : Stand p l e R s m args below meth c T locs cells slots) (hx : p.tables.exec = Jvm.exec) (hZ : Z.Warmed39 s.vm) {n : Int32} {cap : Nat} (eT : T.heap = h) (w : (Jvm.Cond.arrayClass .byte).before a0 Z = true) (hn : ¬ n < 0) (hcap : n.toNatClampNeg ≤ cap) (hb : cap * 8 ≤ 536870912) (hc : cells + 1 ≤ R.cells) (hl : slots + cap ≤ R.slots) (hd : decode c.code pc = .ok (.newarray .byte, 2)) (hp : pc + 2 = pc')
    (kk : ∀ (T' : State) (h' : Heap) (b : Addr), Stand p l e R s m args below meth c T' locs (cells + 1) (slots + cap) → T'.heap = h' → Ext h h' → b = h.size → AI Z h' b .byte (List.replicate n.toNatClampNeg 0) → Go p e below s cm sm Q T' (mkF m pc' Ls (.ref b :: St))) : Go p e below s cm sm Q T (mkF m pc Ls (.int n :: St)) := by
  subst hp
  obtain ⟨T1, h1, k1, X1, e1, E1, A1, C1, st⟩ := newC X hx hZ (aty := .byte) w eT (g := mkF m pc Ls (.int n :: St)) rfl hd rfl hn (cap := cap) hcap hb hc hl
  exact Go.st st (kk _ _ _ X1 e1 E1 rfl (AI.new A1 rfl C1))
theorem w_newJ (X : Stand p l e R s m args below meth c T locs cells slots) (hx : p.tables.exec = Jvm.exec) (hZ : Z.Warmed39 s.vm) {n : Int32} {cap : Nat} (eT : T.heap = h) (w : (Jvm.Cond.arrayClass .long).before a0 Z = true) (hn : ¬ n < 0) (hcap : n.toNatClampNeg ≤ cap) (hb : cap * 8 ≤ 536870912) (hc : cells + 1 ≤ R.cells) (hl : slots + cap ≤ R.slots) (hd : decode c.code pc = .ok (.newarray .long, 2)) (hp : pc + 2 = pc')
    (kk : ∀ (T' : State) (h' : Heap) (b : Addr), Stand p l e R s m args below meth c T' locs (cells + 1) (slots + cap) → T'.heap = h' → Ext h h' → b = h.size → AJ Z h' b (List.replicate n.toNatClampNeg 0) → Go p e below s cm sm Q T' (mkF m pc' Ls (.ref b :: St))) : Go p e below s cm sm Q T (mkF m pc Ls (.int n :: St)) := by
  subst hp
  obtain ⟨T1, h1, k1, X1, e1, E1, A1, C1, st⟩ := newC X hx hZ (aty := .long) w eT (g := mkF m pc Ls (.int n :: St)) rfl hd rfl hn (cap := cap) hcap hb hc hl
  exact Go.st st (kk _ _ _ X1 e1 E1 rfl (AJ.new A1 C1))
theorem w_callP (X : Stand p l e R s m args below meth c T locs cells slots) (hx : p.tables.exec = Jvm.exec) (hZ : Z.Warmed39 s.vm) {own : String} {index : Nat} {y : MethodName} {bytes : ByteArray} {maxL : Nat} {ret : Option FieldType} {rm : Room} {W : Nat} {argsL rest : List Value} {Qc : Option Value → Heap → List Loc → Prop} {a : Addr} (hown : s.vm.findClass own = some m.cls) (eT : T.heap = h) (E : Exa Z h a y.cls) (C : Con l Z y bytes maxL ret rm (.ref a :: argsL).toArray h Qc) (w1 : (Jvm.Cond.methodLink own index y).before a0 Z = true) (w2 : (Jvm.Cond.instanceMethod y).before a0 Z = true) (ws : (Jvm.Cond.selects y.cls y y).before a0 Z = true) (wp : (Jvm.Cond.privateMethod y).before a0 Z = true) (w3 : (Jvm.Cond.initialized y.cls).before a0 Z = true) (w4 : (Jvm.Cond.code y bytes maxL ret).before a0 Z = true) (hy : y.cls ≠ "java/lang/invoke/MethodHandle" ∧ y.cls ≠ "java/lang/invoke/VarHandle")
    (hf : rm.frames + 1 ≤ R.frames) (hl : W + (maxL + 11) + rm.locals ≤ R.locals) (hc : cells + rm.cells ≤ R.cells) (hs : slots + rm.slots ≤ R.slots) (hsz : Ls.size = c.maxLocals) (hlen : ∀ sig, parseMethodDescriptor y.desc = some sig → argsL.length = sig.parameters.length) (hW : (rest.map fun v => v.category).sum ≤ W) (hst : St = argsL.reverse ++ .ref a :: rest) (hd : decode c.code pc = .ok (.invokevirtual index, 3)) (hp : pc + 3 = pc')
    (kk : ∀ (T' : State) (L : List Loc) (v : Option Value), Stand p l e R s m args below meth c T' (locs ++ L) (cells + rm.cells) (slots + rm.slots) → Qc v T'.heap L → Go p e below s cm sm Q T' (mkF m pc' Ls (v.toList ++ rest))) : Go p e below s cm sm Q T (mkF m pc Ls St) := by
  subst hp hst
  obtain ⟨cq, q1, q2⟩ := E.cell
  obtain ⟨v, _, ⟨T1, L1, k1, n1⟩, -, X1, ⟨Lc, hQ, l1, y1, z1⟩, st⟩ := X.privateBack hx (y := y) hown (mvT hZ w1) (mvT hZ w2) (mvT hZ ws) (Cond.privateMethod_at (mvP hZ wp (args := #[]))) (mvT hZ w4) hy (C.back (W := W) hZ w4 w3 hf hl) (g := mkF m pc Ls (argsL.reverse ++ .ref a :: rest)) rfl hsz (Steps.refl _) (a := a) (by rw [eT]; exact q1) q2 (argsL := argsL) (rest := rest) hlen rfl (by show 2 * 0 + _ ≤ _; rw [Nat.mul_zero, Nat.zero_add]; exact hW) hd (fun _ _ => ⟨rfl, eT, hc, hs⟩)
  dsimp only [Pt.U, Pt.locs, Pt.cells, Pt.slots] at X1 l1 y1 z1 st hQ
  subst l1 y1 z1
  exact Go.st (fun t q => st.trans q) (kk _ _ _ X1 hQ)
theorem w_ifnullNo (X : Stand p l e R s m args below meth c T locs cells slots) (hx : p.tables.exec = Jvm.exec) {o : Int} {b : Addr} (hd : decode c.code pc = .ok (.ifnull o, 3)) (hp : pc + 3 = pc') (kk : Go p e below s cm sm Q T (mkF m pc' Ls St)) : Go p e below s cm sm Q T (mkF m pc Ls (.ref b :: St)) := by
  subst hp
  exact Go.st (fun t q => XS.ifnullNo (g := mkF m pc Ls (.ref b :: St)) X.here hx rfl hd rfl q) kk
theorem own_len {n k : Nat} (h : n < 2147483648) (hk : k < 2147483648) (hc : ¬ n.toInt32 < k.toInt32) : k ≤ n := by
  rw [Int32.lt_iff_toInt_lt, len_toInt h, len_toInt hk] at hc
  omega
theorem own_len' {n k : Nat} (h : n < 2147483648) (hk : k < 2147483648) (hc : n.toInt32 < k.toInt32) : n < k := by
  rw [Int32.lt_iff_toInt_lt, len_toInt h, len_toInt hk] at hc
  omega
theorem own_getD {α : Type} {vs : List α} {j : Nat} {d : α} (h : j < vs.length) : vs[j]? = some (vs.getD j d) := by simp [h]
theorem own_nar0 : nar .boolean 0 = 0 := by decide
theorem own_nar1 : nar .boolean 1 = 1 := by decide
end OwnKit
theorem pd_0 : parseMethodDescriptor "()Z" = some ⟨[], some .boolean⟩ := by decide +kernel
theorem pd_1 : parseMethodDescriptor "()I" = some ⟨[], some .int⟩ := by decide +kernel
theorem pd_2 : parseMethodDescriptor "([BII)V" = some ⟨[(.array .byte), .int, .int], none⟩ := by decide +kernel
theorem pd_3 : parseMethodDescriptor "([B[BII)Z" = some ⟨[(.array .byte), (.array .byte), .int, .int], some .boolean⟩ := by decide +kernel
theorem pd_4 : parseMethodDescriptor "([BIII)V" = some ⟨[(.array .byte), .int, .int, .int], none⟩ := by decide +kernel
theorem pd_5 : parseMethodDescriptor "([B)V" = some ⟨[(.array .byte)], none⟩ := by decide +kernel
theorem pd_6 : parseMethodDescriptor "()[B" = some ⟨[], some (.array .byte)⟩ := by decide +kernel
theorem pd_7 : parseMethodDescriptor "()Lcom/example/inwrap/inwrap/DerReader;" = some ⟨[], some (.object "com/example/inwrap/inwrap/DerReader")⟩ := by decide +kernel
theorem own_m (x m : Int32) {k : Nat} (hk : k < 32) (hm : m.toBitVec.toNat = 2 ^ k - 1) : 0 ≤ (x &&& m).toInt ∧ (x &&& m).toInt < 2 ^ k := by
  rw [Jvm.Kit.i32_mask x m hk hm]
  exact ⟨Int.emod_nonneg _ (by have : (0 : Int) < 2 ^ k := Int.pow_pos (by decide); omega), Int.emod_lt_of_pos _ (Int.pow_pos (by decide))⟩
theorem own_one : (1 : Int32).toInt = 1 := by decide
theorem own_zero : (0 : Int32).toInt = 0 := by decide
theorem own_toInt {x y : Int32} (h : x.toInt = y.toInt) : x = y := Int32.toInt_inj.mp h
theorem own_and1 (x : Int32) : x &&& 1 = 0 ∨ x &&& 1 = 1 := and_one x
theorem own_and3 (x : Int32) : x &&& 3 = 0 ∨ x &&& 3 = 1 ∨ x &&& 3 = 2 ∨ x &&& 3 = 3 := by
  obtain ⟨h1, h2⟩ := own_m x 3 (k := 2) (by decide) (by decide)
  have e1 : (1 : Int32).toInt = 1 := by decide
  have e2 : (2 : Int32).toInt = 2 := by decide
  have e3 : (3 : Int32).toInt = 3 := by decide
  have e0 : (0 : Int32).toInt = 0 := by decide
  have : (x &&& 3).toInt = 0 ∨ (x &&& 3).toInt = 1 ∨ (x &&& 3).toInt = 2 ∨ (x &&& 3).toInt = 3 := by omega
  rcases this with h | h | h | h
  · exact Or.inl (own_toInt (h.trans e0.symm))
  · exact Or.inr (Or.inl (own_toInt (h.trans e1.symm)))
  · exact Or.inr (Or.inr (Or.inl (own_toInt (h.trans e2.symm))))
  · exact Or.inr (Or.inr (Or.inr (own_toInt (h.trans e3.symm))))
theorem own_b01 {c : Prop} [Decidable c] {v : Int32} (h : v = if c then 0 else 1) : v = 0 ∨ v = 1 := by subst h; split <;> simp
theorem own_b10 {c : Prop} [Decidable c] {v : Int32} (h : v = if c then 1 else 0) : v = 0 ∨ v = 1 := by subst h; split <;> simp
theorem own_an {P : Jvm.Cond → Prop} : ∀ d ∈ ([] : List Jvm.Cond), P d := fun _ q => nomatch q
theorem own_ac {P : Jvm.Cond → Prop} {q : Jvm.Cond} {L : List Jvm.Cond} (h : P q) (t : ∀ d ∈ L, P d) : ∀ d ∈ q :: L, P d := fun d hd => (List.mem_cons.mp hd).elim (fun u => u ▸ h) (t d)
theorem own_tabOf {y : MethodName} {bytes : ByteArray} {maxL : Nat} {ret : Option FieldType} {site : List Jvm.Cond} {a : Array Value} {u : State} (h1 : (Jvm.Cond.code y bytes maxL ret).before a u = true) (h2 : (Jvm.Cond.initialized y.cls).before a u = true) (h3 : ∀ d ∈ site, d.before a u = true) : (XT.tabOf y bytes maxL ret site).before a u = true :=
  (conj_holds (args := a) (first := u) (o := none) (s := u) (idx := []) _ _).mpr ⟨h1, own_ac h2 h3⟩
/-- what a copy holds: n places from lo on, the rest 0 -/
def own_cpI (vs : List Int32) (lo n : Nat) : List Int32 := (List.range n).map fun j => vs.getD (lo + j) 0
def own_cpJ (vs : List Int64) (lo n : Nat) : List Int64 := (List.range n).map fun j => vs.getD (lo + j) 0
theorem own_cpI_len (vs : List Int32) (lo n : Nat) : (own_cpI vs lo n).length = n := by simp [own_cpI]
theorem own_cpJ_len (vs : List Int64) (lo n : Nat) : (own_cpJ vs lo n).length = n := by simp [own_cpJ]
theorem own_typed {c : Cell} {vs : List Int32} {ty : FieldType} (q : c.slots.toList = vs.map Value.int) (h : ∀ x ∈ vs, fits ty (.int x) = true) : XT.Typed ty c := fun i v hv => by
  rw [← Array.getElem?_toList, q, List.getElem?_map] at hv
  cases hx : vs[i]? with
  | none => rw [hx] at hv; cases hv
  | some x => rw [hx] at hv; cases hv; exact h x (List.mem_of_getElem? hx)
theorem own_slotsD {c : Cell} {vs : List Int32} (q : c.slots.toList = vs.map Value.int) (j : Nat) : c.slots.getD j (.int 0) = .int (vs.getD j 0) := by
  rw [Array.getD_eq_getD_getElem?, ← Array.getElem?_toList, q, List.getElem?_map, List.getD_eq_getElem?_getD]
  cases vs[j]? <;> rfl
theorem own_slotsDJ {c : Cell} {vs : List Int64} (q : c.slots.toList = vs.map Value.long) (j : Nat) : c.slots.getD j (.long 0) = .long (vs.getD j 0) := by
  rw [Array.getD_eq_getD_getElem?, ← Array.getElem?_toList, q, List.getElem?_map, List.getD_eq_getElem?_getD]
  cases vs[j]? <;> rfl
theorem own_toL {α : Type} {c : Array α} {n : Nat} {f : Nat → α} (hs : c.size = n) (h : ∀ j, j < n → c[j]? = some (f j)) : c.toList = (List.range n).map f := by
  apply List.ext_getElem?
  intro j
  rw [Array.getElem?_toList, List.getElem?_map]
  by_cases q : j < n
  · rw [h j q, List.getElem?_range q]; rfl
  · rw [Array.getElem?_eq_none (by omega), List.getElem?_eq_none (by simp; omega)]; rfl
theorem own_typedJ {c : Cell} {vs : List Int64} (q : c.slots.toList = vs.map Value.long) : XT.Typed .long c := fun i v hv => by
  rw [← Array.getElem?_toList, q, List.getElem?_map] at hv
  cases hx : vs[i]? with
  | none => rw [hx] at hv; cases hv
  | some x => rw [hx] at hv; cases hv; rfl
theorem own_pdCopyOfRangeB : parseMethodDescriptor "([BII)[B" = some ⟨[.array .byte, .int, .int], some (.array .byte)⟩ := by decide +kernel
section CopyCopyOfRangeB
variable {p : Program} {l : Launch} {e : Env} {R : Room} {s : State} {m : MethodId} {args : Array Value} {below : List Frame} {meth : Method} {c : Code} {T T' : State} {locs : List Loc} {cells slots : Nat} {Z : State} {a0 : Array Value} {h h' : Heap} {cm sm : Nat} {Q : Option Value → Heap → List Loc → Prop} {pc pc' : Nat} {Ls Ls' : Array Slot} {St : List Value}
theorem w_CopyOfRangeB (X : Stand p l e R s m args below meth c T locs cells slots) (hx : p.tables.exec = Jvm.exec) (hZ : Z.Warmed39 s.vm) {own : String} {index W : Nat} {rest : List Value} {a : Addr} {vs : List Int32} {lo hi : Nat} (hown : s.vm.findClass own = some m.cls) (eT : T.heap = h) (F : AI Z h a .byte vs) (hfit : ∀ x ∈ vs, fits .byte (.int x) = true) (hlo : lo ≤ hi) (hlen : lo ≤ vs.length) (hhi : hi < 1000000) (htab : JA.CopyOfRangeB.tab.before args s = true) (w1 : (Jvm.Cond.methodLink own index JA.CopyOfRangeB.yN).before a0 Z = true) (w2 : (Jvm.Cond.static JA.CopyOfRangeB.yN).before a0 Z = true) (w3 : (Jvm.Cond.initialized JA.CopyOfRangeB.yN.cls).before a0 Z = true)
    (hf : 3 ≤ R.frames) (hl : W + 70 ≤ R.locals) (hc : cells + 1 ≤ R.cells) (hs : slots + (hi - lo) ≤ R.slots) (hsz : Ls.size = c.maxLocals) (hW : (rest.map fun v => v.category).sum ≤ W) (hd : decode c.code pc = .ok (.invokestatic index, 3)) (hp : pc + 3 = pc')
    (kk : ∀ (T' : State) (h' : Heap) (b : Addr), Stand p l e R s m args below meth c T' locs (cells + 1) (slots + (hi - lo)) → T'.heap = h' → Ext h h' → b = h.size → AI Z h' b .byte (own_cpI vs lo (hi - lo)) → Go p e below s cm sm Q T' (mkF m pc' Ls (.ref b :: rest))) : Go p e below s cm sm Q T (mkF m pc Ls ([.ref a, .int (Int32.ofNat lo), .int (Int32.ofNat hi)].reverse ++ rest)) := by
  subst hp
  obtain ⟨cl, A, q, r, k⟩ := F
  obtain ⟨v, vm1, ⟨T1, L1, k1, n1⟩, hW1, X1, ⟨⟨hv, B, hB, -, hBc, hBs, hBv, hK⟩, l1, y1, z1⟩, st⟩ := Jvm.LawKit.callS X hx (y := JA.CopyOfRangeB.yN) hown (mvT hZ w1) (mvT hZ w2) (mvT hZ w3) (HMW.conj_parts htab).1 (by decide) (JA.CopyOfRangeB.pays (l := l) (R := R) (p := p) (e := e) (below := below) (s := s) (sargs := args) (len := 3) (W := W) a cl lo hi htab hf hl) (g := mkF m pc Ls ([.ref a, .int (Int32.ofNat lo), .int (Int32.ofNat hi)].reverse ++ rest)) rfl hsz (argsL := [.ref a, .int (Int32.ofNat lo), .int (Int32.ofNat hi)]) (rest := rest) (lenOf own_pdCopyOfRangeB rfl) rfl (by show 2 * 0 + _ ≤ _; rw [Nat.mul_zero, Nat.zero_add]; exact hW) hd (fun vm₁ hV => by
    have hZ1 : Z.Warmed39 vm₁ := State.Warmed39.trans hZ hV.wide
    exact ⟨hc, hs, ⟨rfl, ⟨by rw [← eT] at A; exact A.1, State.isArrayOf_alike hZ1.alike A.2.1, A.2.2, by rw [AI.sz q]; exact r⟩, by show vm₁.findClass "[B" = _; rw [hZ1.alike.findClass]; exact k, own_typed q hfit, hlo, by rw [AI.sz q]; exact hlen, by omega, by omega⟩⟩)
  dsimp only [Pt.U, Pt.locs, Pt.cells, Pt.slots] at X1 l1 y1 z1 st hv hB hBc hBs hBv hK
  subst l1 y1 z1 hv
  rw [List.append_nil] at X1
  have hZ1 : Z.Warmed39 T1.vm := State.Warmed39.trans hZ X1.warmed.wide
  have e1 : (T.setVm vm1).heap = h := eT
  rw [e1] at hB st
  refine Go.st st (kk T1 T1.heap h.size X1 rfl ⟨?_, fun y cy hy => hK y cy (by rw [e1]; exact hy)⟩ rfl ?_)
  · have := (Array.getElem?_eq_some_iff.mp hB.1).1; omega
  · refine ⟨B, ⟨hB.1, State.isArrayOf_alike hZ1.alike.symm hB.2.1, hB.2.2.1⟩, ?_, ?_, ?_⟩
    · rw [own_toL hBs hBv, own_cpI, List.map_map]
      apply List.map_congr_left
      intro j _
      show cl.slots.getD _ (Value.int 0) = _
      rw [own_slotsD q]
      rfl
    · rw [own_cpI_len]; omega
    · have := hBc; rw [hZ1.alike.findClass] at this; exact this
end CopyCopyOfRangeB
theorem own_tabCopyOfRangeB {Z : State} {s : State} {a0 args : Array Value} (hZ : Z.Warmed39 s.vm) (hw : ∀ d ∈ tables_1, d.before a0 Z = true) : JA.CopyOfRangeB.tab.before args s = true :=
  own_tabOf (mvT hZ (hw _ (List.mem_of_getElem? (i := 31) rfl))) (mvT hZ (hw _ (List.mem_of_getElem? (i := 30) rfl))) ((own_ac (mvT hZ (hw _ (List.mem_of_getElem? (i := 39) rfl))) (own_ac (mvT hZ (hw _ (List.mem_of_getElem? (i := 40) rfl))) (own_ac (own_tabOf (mvT hZ (hw _ (List.mem_of_getElem? (i := 65) rfl))) (mvT hZ (hw _ (List.mem_of_getElem? (i := 30) rfl))) ((own_ac (own_tabOf (mvT hZ (hw _ (List.mem_of_getElem? (i := 68) rfl))) (mvT hZ (hw _ (List.mem_of_getElem? (i := 30) rfl))) own_an) (own_ac (mvA hZ (hw _ (List.mem_of_getElem? (i := 0) rfl))) (own_ac (own_tabOf (mvT hZ (hw _ (List.mem_of_getElem? (i := 72) rfl))) (mvT hZ (hw _ (List.mem_of_getElem? (i := 71) rfl))) own_an) (own_ac (mvT hZ (hw _ (List.mem_of_getElem? (i := 66) rfl))) (own_ac (mvT hZ (hw _ (List.mem_of_getElem? (i := 67) rfl))) (own_ac (mvT hZ (hw _ (List.mem_of_getElem? (i := 69) rfl))) (own_ac (mvT hZ (hw _ (List.mem_of_getElem? (i := 70) rfl))) (own_ac (mvT hZ (hw _ (List.mem_of_getElem? (i := 73) rfl))) (own_ac (mvT hZ (hw _ (List.mem_of_getElem? (i := 76) rfl))) (own_ac (mvT hZ (hw _ (List.mem_of_getElem? (i := 74) rfl))) (own_ac (mvT hZ (hw _ (List.mem_of_getElem? (i := 75) rfl))) own_an))))))))))))) (own_ac (mvT hZ (hw _ (List.mem_of_getElem? (i := 32) rfl))) (own_ac (mvT hZ (hw _ (List.mem_of_getElem? (i := 33) rfl))) (own_ac (mvT hZ (hw _ (List.mem_of_getElem? (i := 37) rfl))) (own_ac (mvT hZ (hw _ (List.mem_of_getElem? (i := 35) rfl))) (own_ac (mvT hZ (hw _ (List.mem_of_getElem? (i := 36) rfl))) (own_ac (mvT hZ (hw _ (List.mem_of_getElem? (i := 38) rfl))) (own_ac (mvT hZ (hw _ (List.mem_of_getElem? (i := 63) rfl))) (own_ac (mvT hZ (hw _ (List.mem_of_getElem? (i := 64) rfl))) own_an))))))))))))
theorem d3_0 : decode prog_5_method_2_code 0 = .ok (.aload_n 0, 1) := by decide +kernel
theorem d3_1 : decode prog_5_method_2_code 1 = .ok (.invokespecial 7, 3) := by decide +kernel
theorem d3_4 : decode prog_5_method_2_code 4 = .ok (.aload_n 0, 1) := by decide +kernel
theorem d3_5 : decode prog_5_method_2_code 5 = .ok (.aload_n 1, 1) := by decide +kernel
theorem d3_6 : decode prog_5_method_2_code 6 = .ok (.putfield 12, 3) := by decide +kernel
theorem d3_9 : decode prog_5_method_2_code 9 = .ok (.aload_n 0, 1) := by decide +kernel
theorem d3_10 : decode prog_5_method_2_code 10 = .ok (.iload_n 2, 1) := by decide +kernel
theorem d3_11 : decode prog_5_method_2_code 11 = .ok (.putfield 16, 3) := by decide +kernel
theorem d3_14 : decode prog_5_method_2_code 14 = .ok (.aload_n 0, 1) := by decide +kernel
theorem d3_15 : decode prog_5_method_2_code 15 = .ok (.iload_n 3, 1) := by decide +kernel
theorem d3_16 : decode prog_5_method_2_code 16 = .ok (.putfield 20, 3) := by decide +kernel
theorem d3_19 : decode prog_5_method_2_code 19 = .ok (.return_, 1) := by decide +kernel
theorem ef_3 (m : MethodId) (ob : Addr) (x1 : Addr) (x2 : Int32) (x3 : Int32) : entryFrame m #[(.ref ob), (.ref x1), (.int x2), (.int x3)] 4 = mkF m 0 #[.val (.ref ob), .val (.ref x1), .val (.int x2), .val (.int x3)] [] := by first | (simp [entryFrame, mkF, argsToLocals, Value.category]; done) | rfl
set_option maxRecDepth 65536 in
set_option maxHeartbeats 40000000 in
theorem rm3 (l : Launch) (Z : State) (a0 : Array Value) (hw : ∀ d ∈ tables_1, d.before a0 Z = true) (ob : Addr) (x1 : Addr) (x2 : Int32) (x3 : Int32) (h0 : Heap) (n0 : Nat) (Z0 : n0 ≤ h0.size) (E_ob : Exa Z h0 ob "com/example/inwrap/inwrap/DerReader") (g_ob : n0 ≤ ob) (F_input : Fld Z h0 ob "com/example/inwrap/inwrap/DerReader" "input" "[B" .null) (F_position : Fld Z h0 ob "com/example/inwrap/inwrap/DerReader" "position" "I" (.int (0 : Int32))) (F_end : Fld Z h0 ob "com/example/inwrap/inwrap/DerReader" "end" "I" (.int (0 : Int32))) :
    Con l Z (⟨"com/example/inwrap/inwrap/DerReader", "<init>", "([BII)V"⟩ : MethodName) prog_5_method_2_code 4 none ({ frames := 1, cells := 0, slots := 0, locals := 16 } : Room) #[(.ref ob), (.ref x1), (.int x2), (.int x3)] h0 (fun v h L => v = none ∧ Fr n0 L ∧ Keep h0 h [ob] ∧ Fld Z h ob "com/example/inwrap/inwrap/DerReader" "input" "[B" (.ref x1) ∧ Fld Z h ob "com/example/inwrap/inwrap/DerReader" "position" "I" (.int x2) ∧ Fld Z h ob "com/example/inwrap/inwrap/DerReader" "end" "I" (.int x3)) := by
  refine Con.of (plainFor_of_name (by first | (simp [plainName, overriddenIn]; done) | decide +kernel)) ?_
  intro p e s m below meth c T X hx hZ hby hml hown hnm hret hlk e0
  rw [ef_3]
  have N0 := Fr.nil n0
  have KP0 := Keep.refl h0 [ob]
  show Go p e below s 0 0 (fun v h L => v = none ∧ Fr n0 L ∧ Keep h0 h [ob] ∧ Fld Z h ob "com/example/inwrap/inwrap/DerReader" "input" "[B" (.ref x1) ∧ Fld Z h ob "com/example/inwrap/inwrap/DerReader" "position" "I" (.int x2) ∧ Fld Z h ob "com/example/inwrap/inwrap/DerReader" "end" "I" (.int x3)) T (mkF m 0 #[.val (.ref ob), .val (.ref x1), .val (.int x2), .val (.int x3)] [])
  refine w_aloadN X hx (hb hby d3_0) (pc' := 1) rfl rfl rfl ?_
  refine w_initO X hx hZ hown e0 (hw _ (List.mem_of_getElem? (i := 14) rfl)) (hw _ (List.mem_of_getElem? (i := 15) rfl)) (hw _ (List.mem_of_getElem? (i := 16) rfl)) (by rw [hml]; rfl) (hb hby d3_1) (by decide) (W := 0) (by decide) (by decide) (pc' := 4) rfl (fun T1 X1 e1 => ?_)
  refine w_aloadN X1 hx (hb hby d3_4) (pc' := 5) rfl rfl rfl ?_
  refine w_aloadN X1 hx (hb hby d3_5) (pc' := 6) rfl rfl rfl ?_
  refine w_putF X1 hx hZ hown e1 F_input E_ob (hw _ (List.mem_of_getElem? (i := 17) rfl)) (Or.inr ⟨(hw _ (List.mem_of_getElem? (i := 18) rfl)), rfl, hnm⟩) (hw _ (List.mem_of_getElem? (i := 6) rfl)) (ty := (.array .byte)) (by decide) rfl rfl (hb hby d3_6) (pc' := 9) rfl (fun T2 h2 X2 e2 W2 => ?_)
  have F2 := F_input.same W2
  have KP2 := KP0.wr W2 (Or.inl (by simp))
  have N2 := Fr.snoc X2 N0 g_ob
  have zn2 : n0 ≤ h2.size := by rw [W2.size]; exact Z0
  refine w_aloadN X2 hx (hb hby d3_9) (pc' := 10) rfl rfl rfl ?_
  refine w_iloadN X2 hx (hb hby d3_10) (pc' := 11) rfl rfl ?_
  have f3 := F_position.other W2 (Or.inr (slot_ne (Or.inl (hw _ (List.mem_of_getElem? (i := 20) rfl))) (Or.inr (hw _ (List.mem_of_getElem? (i := 18) rfl))) (by decide) (t := .int) (t' := (.array .byte)) (by decide) (by decide)))
  have f4 := E_ob.wr W2
  refine w_putF X2 hx hZ hown e2 f3 f4 (hw _ (List.mem_of_getElem? (i := 19) rfl)) (Or.inl (hw _ (List.mem_of_getElem? (i := 20) rfl))) (hw _ (List.mem_of_getElem? (i := 6) rfl)) (ty := .int) (by decide) rfl rfl (hb hby d3_11) (pc' := 14) rfl (fun T5 h5 X5 e5 W5 => ?_)
  have F5 := f3.same W5
  have KP5 := KP2.wr W5 (Or.inl (by simp))
  have N5 := Fr.snoc X5 N2 g_ob
  have zn5 : n0 ≤ h5.size := by rw [W5.size]; exact zn2
  refine w_aloadN X5 hx (hb hby d3_14) (pc' := 15) rfl rfl rfl ?_
  refine w_iloadN X5 hx (hb hby d3_15) (pc' := 16) rfl rfl ?_
  have f6 := F_end.other W2 (Or.inr (slot_ne (Or.inr (hw _ (List.mem_of_getElem? (i := 22) rfl))) (Or.inr (hw _ (List.mem_of_getElem? (i := 18) rfl))) (by decide) (t := .int) (t' := (.array .byte)) (by decide) (by decide)))
  have f7 := f6.other W5 (Or.inr (slot_ne (Or.inr (hw _ (List.mem_of_getElem? (i := 22) rfl))) (Or.inl (hw _ (List.mem_of_getElem? (i := 20) rfl))) (by decide) (t := .int) (t' := .int) (by decide) (by decide)))
  have f8 := f4.wr W5
  refine w_putF X5 hx hZ hown e5 f7 f8 (hw _ (List.mem_of_getElem? (i := 21) rfl)) (Or.inr ⟨(hw _ (List.mem_of_getElem? (i := 22) rfl)), rfl, hnm⟩) (hw _ (List.mem_of_getElem? (i := 6) rfl)) (ty := .int) (by decide) rfl rfl (hb hby d3_16) (pc' := 19) rfl (fun T9 h9 X9 e9 W9 => ?_)
  have F9 := f7.same W9
  have KP9 := KP5.wr W9 (Or.inl (by simp))
  have N9 := Fr.snoc X9 N5 g_ob
  have zn9 : n0 ≤ h9.size := by rw [W9.size]; exact zn5
  have f10 := F2.other W5 (Or.inr (slot_ne (Or.inr (hw _ (List.mem_of_getElem? (i := 18) rfl))) (Or.inl (hw _ (List.mem_of_getElem? (i := 20) rfl))) (by decide) (t := (.array .byte)) (t' := .int) (by decide) (by decide)))
  have f11 := f10.other W9 (Or.inr (slot_ne (Or.inr (hw _ (List.mem_of_getElem? (i := 18) rfl))) (Or.inr (hw _ (List.mem_of_getElem? (i := 22) rfl))) (by decide) (t := (.array .byte)) (t' := .int) (by decide) (by decide)))
  have f12 := F5.other W9 (Or.inr (slot_ne (Or.inl (hw _ (List.mem_of_getElem? (i := 20) rfl))) (Or.inr (hw _ (List.mem_of_getElem? (i := 22) rfl))) (by decide) (t := .int) (t' := .int) (by decide) (by decide)))
  exact w_retV X9 hx hret hlk (hb hby d3_19) (by decide) (by decide) (by rw [e9]; exact ⟨rfl, N9, KP9, f11, f12, F9⟩)
theorem d11_0 : decode prog_5_method_3_code 0 = .ok (.aload_n 0, 1) := by decide +kernel
theorem d11_1 : decode prog_5_method_3_code 1 = .ok (.getfield 16, 3) := by decide +kernel
theorem d11_4 : decode prog_5_method_3_code 4 = .ok (.aload_n 0, 1) := by decide +kernel
theorem d11_5 : decode prog_5_method_3_code 5 = .ok (.getfield 20, 3) := by decide +kernel
theorem d11_8 : decode prog_5_method_3_code 8 = .ok (.if_icmp .ne 7, 3) := by decide +kernel
theorem d11_11 : decode prog_5_method_3_code 11 = .ok (.iconst 1, 1) := by decide +kernel
theorem d11_12 : decode prog_5_method_3_code 12 = .ok (.goto 4, 3) := by decide +kernel
theorem d11_15 : decode prog_5_method_3_code 15 = .ok (.iconst 0, 1) := by decide +kernel
theorem d11_16 : decode prog_5_method_3_code 16 = .ok (.ireturn, 1) := by decide +kernel
def K11_0 (f_position : Int32) (f_end : Int32)  : Int32 :=
  (if f_position = f_end then (1 : Int32)
  else (0 : Int32))
set_option maxRecDepth 65536 in
set_option maxHeartbeats 4000000 in
theorem bk11_0 {p : Program} {l : Launch} {e : Env} {s : State} {m : MethodId} {args : Array Value} {below : List Frame} {meth : Method} {c : Code} {T : State} {locs : List Loc} {Z : State} {a0 : Array Value} {h0 : Heap} {n0 : Nat} {ob : Addr} {f_position : Int32} {f_end : Int32} (X : Stand p l e ({ frames := 0, cells := 0, slots := 0, locals := 0 } : Room) s m args below meth c T locs 0 0) (hx : p.tables.exec = Jvm.exec) (hZ : Z.Warmed39 s.vm) (hw : ∀ d ∈ tables_1, d.before a0 Z = true) (hby : c.code = prog_5_method_3_code) (hml : c.maxLocals = 1) (hown : s.vm.findClass "com/example/inwrap/inwrap/DerReader" = some m.cls) (hret : meth.sig.returnType = (some .boolean)) (hlk : meth.locks = false) (e0 : T.heap = h0) (N0 : Fr n0 locs) (F_position : Fld Z h0 ob "com/example/inwrap/inwrap/DerReader" "position" "I" (.int f_position)) (F_end : Fld Z h0 ob "com/example/inwrap/inwrap/DerReader" "end" "I" (.int f_end)) :
    Go p e below s 0 0 (QP (some (.int (K11_0 f_position f_end))) h0 n0) T (mkF m 0 #[.val (.ref ob)] []) := by
  rw [K11_0]
  refine w_aloadN X hx (hb hby d11_0) (pc' := 1) rfl rfl rfl ?_
  refine w_getF X hx hZ hown e0 F_position (hw _ (List.mem_of_getElem? (i := 19) rfl)) (hb hby d11_1) (pc' := 4) rfl (fun T13 X13 e13 => ?_)
  refine w_aloadN X13 hx (hb hby d11_4) (pc' := 5) rfl rfl rfl ?_
  refine w_getF X13 hx hZ hown e13 F_end (hw _ (List.mem_of_getElem? (i := 21) rfl)) (hb hby d11_5) (pc' := 8) rfl (fun T14 X14 e14 => ?_)
  refine w_icmp_ne X14 hx (hb hby d11_8) (pf := 11) (pt := 15) rfl (by decide) (by decide) (fun hc8 => ?_) (fun hc8 => ?_)
  · rw [if_neg hc8]
    refine w_iconst (v := 0) X14 hx (hb hby d11_15) (pc' := 16) rfl rfl ?_
    exact w_retZ X14 hx hret hlk (hb hby d11_16) (by decide) (by decide) ⟨rfl, N0, e14⟩
  · rw [if_pos hc8]
    refine w_iconst (v := 1) X14 hx (hb hby d11_11) (pc' := 12) rfl rfl ?_
    refine w_goto X14 hx (hb hby d11_12) (pc' := 16) (by decide) (by decide) ?_
    exact w_retZ X14 hx hret hlk (hb hby d11_16) (by decide) (by decide) ⟨rfl, N0, e14⟩
theorem ef_11 (m : MethodId) (ob : Addr) : entryFrame m #[(.ref ob)] 1 = mkF m 0 #[.val (.ref ob)] [] := by first | (simp [entryFrame, mkF, argsToLocals, Value.category]; done) | rfl
theorem rm11 (l : Launch) (Z : State) (a0 : Array Value) (hw : ∀ d ∈ tables_1, d.before a0 Z = true) (ob : Addr) (h0 : Heap) (n0 : Nat) (f_position : Int32) (f_end : Int32) (F_position : Fld Z h0 ob "com/example/inwrap/inwrap/DerReader" "position" "I" (.int f_position)) (F_end : Fld Z h0 ob "com/example/inwrap/inwrap/DerReader" "end" "I" (.int f_end)) :
    Con l Z (⟨"com/example/inwrap/inwrap/DerReader", "atEnd", "()Z"⟩ : MethodName) prog_5_method_3_code 1 (some .boolean) ({ frames := 0, cells := 0, slots := 0, locals := 0 } : Room) #[(.ref ob)] h0 (QP (some (.int (K11_0 f_position f_end))) h0 n0) := by
  refine Con.of (plainFor_of_name (by first | (simp [plainName, overriddenIn]; done) | decide +kernel)) ?_
  intro p e s m below meth c T X hx hZ hby hml hown hnm hret hlk e0
  rw [ef_11]
  exact bk11_0 X hx hZ hw hby hml hown hret hlk e0 (Fr.nil n0) F_position F_end
theorem d10_0 : decode prog_5_method_4_code 0 = .ok (.aload_n 0, 1) := by decide +kernel
theorem d10_1 : decode prog_5_method_4_code 1 = .ok (.invokevirtual 23, 3) := by decide +kernel
theorem d10_4 : decode prog_5_method_4_code 4 = .ok (.ifCond .eq 20, 3) := by decide +kernel
theorem d10_7 : decode prog_5_method_4_code 7 = .ok (.new 27, 3) := by decide +kernel
theorem d10_10 : decode prog_5_method_4_code 10 = .ok (.dup, 1) := by decide +kernel
theorem d10_11 : decode prog_5_method_4_code 11 = .ok (.aload_n 0, 1) := by decide +kernel
theorem d10_12 : decode prog_5_method_4_code 12 = .ok (.getfield 16, 3) := by decide +kernel
theorem d10_20 : decode prog_5_method_4_code 20 = .ok (.invokespecial 33, 3) := by decide +kernel
theorem d10_24 : decode prog_5_method_4_code 24 = .ok (.aload_n 0, 1) := by decide +kernel
theorem d10_25 : decode prog_5_method_4_code 25 = .ok (.getfield 12, 3) := by decide +kernel
theorem d10_28 : decode prog_5_method_4_code 28 = .ok (.aload_n 0, 1) := by decide +kernel
theorem d10_29 : decode prog_5_method_4_code 29 = .ok (.getfield 16, 3) := by decide +kernel
theorem d10_32 : decode prog_5_method_4_code 32 = .ok (.baload, 1) := by decide +kernel
theorem d10_33 : decode prog_5_method_4_code 33 = .ok (.sipush 255, 3) := by decide +kernel
theorem d10_36 : decode prog_5_method_4_code 36 = .ok (.iand, 1) := by decide +kernel
theorem d10_37 : decode prog_5_method_4_code 37 = .ok (.ireturn, 1) := by decide +kernel
def K10_0 (f_position : Int32) (f_end : Int32) (vs : List Int32)  : Int32 :=
  ((vs.getD (f_position).toNatClampNeg 0) &&& (255 : Int32))
set_option maxRecDepth 65536 in
set_option maxHeartbeats 4000000 in
theorem bk10_0 {p : Program} {l : Launch} {e : Env} {s : State} {m : MethodId} {args : Array Value} {below : List Frame} {meth : Method} {c : Code} {T : State} {locs : List Loc} {Z : State} {a0 : Array Value} {h0 : Heap} {n0 : Nat} {ob : Addr} {f_position : Int32} {f_end : Int32} {vs : List Int32} (X : Stand p l e ({ frames := 1, cells := 0, slots := 0, locals := 18 } : Room) s m args below meth c T locs 0 0) (hx : p.tables.exec = Jvm.exec) (hZ : Z.Warmed39 s.vm) (hw : ∀ d ∈ tables_1, d.before a0 Z = true) (hby : c.code = prog_5_method_4_code) (hml : c.maxLocals = 1) (hown : s.vm.findClass "com/example/inwrap/inwrap/DerReader" = some m.cls) (hret : meth.sig.returnType = (some .int)) (hlk : meth.locks = false) (e0 : T.heap = h0) (N0 : Fr n0 locs) {f_input : Addr} (F_input : Fld Z h0 ob "com/example/inwrap/inwrap/DerReader" "input" "[B" (.ref f_input)) (F_position : Fld Z h0 ob "com/example/inwrap/inwrap/DerReader" "position" "I" (.int f_position)) (F_end : Fld Z h0 ob "com/example/inwrap/inwrap/DerReader" "end" "I" (.int f_end)) (V_in : AI Z h0 f_input .byte vs) (E_ob : Exa Z h0 ob "com/example/inwrap/inwrap/DerReader") (hne : ¬ (f_position = f_end)) (hp0 : ¬ f_position < 0) (hp1 : f_position.toNatClampNeg < vs.length) :
    Go p e below s 0 0 (QP (some (.int (K10_0 f_position f_end vs))) h0 n0) T (mkF m 0 #[.val (.ref ob)] []) := by
  rw [K10_0]
  refine w_aloadN X hx (hb hby d10_0) (pc' := 1) rfl rfl rfl ?_
  refine w_callV (argsL := []) (rest := []) (a := ob) X hx hZ hown e0 E_ob (rm11 l Z a0 hw ob h0 n0 f_position f_end  F_position F_end ) (hw _ (List.mem_of_getElem? (i := 57) rfl)) (hw _ (List.mem_of_getElem? (i := 58) rfl)) (hw _ (List.mem_of_getElem? (i := 60) rfl)) (hw _ (List.mem_of_getElem? (i := 59) rfl)) (hw _ (List.mem_of_getElem? (i := 7) rfl)) (hw _ (List.mem_of_getElem? (i := 61) rfl)) (by decide) (by decide) (W := 0) (by decide) (by decide) (by decide) (by rw [hml]; rfl) (lenOf pd_0 rfl) (Nat.le_refl _) rfl (hb hby d10_1) (pc' := 4) rfl (fun T15 L15 v15 X15 hQ15 => ?_)
  obtain ⟨rfl, N15q, e15⟩ := hQ15
  have N15 := Fr.app N0 N15q
  have X15 : Stand p l e ({ frames := 1, cells := 0, slots := 0, locals := 18 } : Room) s m _ below meth c T15 _ 0 0 := X15
  show Go p e below s 0 0 _ T15 (mkF m 4 #[.val (.ref ob)] [(.int (K11_0 f_position f_end ))])
  have hf4 : (K11_0 f_position f_end ) = (0 : Int32) := by rw [K11_0, if_neg hne]
  refine w_if_eq X15 hx (hb hby d10_4) (pf := 7) (pt := 24) rfl (by decide) (by decide) (fun hc4 => ?_) (fun hc => absurd hf4 hc)
  refine w_aloadN X15 hx (hb hby d10_24) (pc' := 25) rfl rfl rfl ?_
  refine w_getF X15 hx hZ hown e15 F_input (hw _ (List.mem_of_getElem? (i := 17) rfl)) (hb hby d10_25) (pc' := 28) rfl (fun T16 X16 e16 => ?_)
  refine w_aloadN X16 hx (hb hby d10_28) (pc' := 29) rfl rfl rfl ?_
  refine w_getF X16 hx hZ hown e16 F_position (hw _ (List.mem_of_getElem? (i := 19) rfl)) (hb hby d10_29) (pc' := 32) rfl (fun T17 X17 e17 => ?_)
  refine w_baload X17 hx hZ e17 V_in (v := (vs.getD (f_position).toNatClampNeg 0)) hp0 (own_getD hp1) (hb hby d10_32) (pc' := 33) rfl ?_
  refine w_sipush (v := 255) X17 hx (hb hby d10_33) (pc' := 36) rfl rfl ?_
  refine w_iand X17 hx (hb hby d10_36) (pc' := 37) rfl ?_
  exact w_retI X17 hx hret hlk (hb hby d10_37) (by decide) (by decide) ⟨rfl, N15, e17⟩
theorem ef_10 (m : MethodId) (ob : Addr) : entryFrame m #[(.ref ob)] 1 = mkF m 0 #[.val (.ref ob)] [] := by first | (simp [entryFrame, mkF, argsToLocals, Value.category]; done) | rfl
theorem rm10 (l : Launch) (Z : State) (a0 : Array Value) (hw : ∀ d ∈ tables_1, d.before a0 Z = true) (ob : Addr) (h0 : Heap) (n0 : Nat) (f_position : Int32) (f_end : Int32) (vs : List Int32) {f_input : Addr} (F_input : Fld Z h0 ob "com/example/inwrap/inwrap/DerReader" "input" "[B" (.ref f_input)) (F_position : Fld Z h0 ob "com/example/inwrap/inwrap/DerReader" "position" "I" (.int f_position)) (F_end : Fld Z h0 ob "com/example/inwrap/inwrap/DerReader" "end" "I" (.int f_end)) (V_in : AI Z h0 f_input .byte vs) (E_ob : Exa Z h0 ob "com/example/inwrap/inwrap/DerReader") (hne : ¬ (f_position = f_end)) (hp0 : ¬ f_position < 0) (hp1 : f_position.toNatClampNeg < vs.length) :
    Con l Z (⟨"com/example/inwrap/inwrap/DerReader", "peekTag", "()I"⟩ : MethodName) prog_5_method_4_code 1 (some .int) ({ frames := 1, cells := 0, slots := 0, locals := 18 } : Room) #[(.ref ob)] h0 (QP (some (.int (K10_0 f_position f_end vs))) h0 n0) := by
  refine Con.of (plainFor_of_name (by first | (simp [plainName, overriddenIn]; done) | decide +kernel)) ?_
  intro p e s m below meth c T X hx hZ hby hml hown hnm hret hlk e0
  rw [ef_10]
  exact bk10_0 X hx hZ hw hby hml hown hret hlk e0 (Fr.nil n0) F_input F_position F_end V_in E_ob hne hp0 hp1
theorem own_cast (x : Int32) : x.toInt64.toInt32 = x := by simp
theorem own_small {x : Int32} {k : Int} (h : 0 ≤ x.toInt ∧ x.toInt ≤ k) (hk : k < 128) : ¬ (x = (128 : Int32)) ∧ ¬ ((128 : Int32) < x) := by
  have e : (128 : Int32).toInt = 128 := by decide
  rw [← Int32.toInt_inj, Int32.lt_iff_toInt_lt, e]
  omega
theorem own_fit {x : Int32} {k : Int64} {n : Int} (h : 0 ≤ x.toInt ∧ x.toInt ≤ n) (hk : k.toInt = n) : ¬ (k < x.toInt64) := by
  rw [Int64.lt_iff_toInt_lt, Int32.toInt_toInt64, hk]
  omega
theorem d9_0 : decode prog_5_method_6_code 0 = .ok (.aload_n 0, 1) := by decide +kernel
theorem d9_1 : decode prog_5_method_6_code 1 = .ok (.getfield 16, 3) := by decide +kernel
theorem d9_4 : decode prog_5_method_6_code 4 = .ok (.istore_n 1, 1) := by decide +kernel
theorem d9_5 : decode prog_5_method_6_code 5 = .ok (.aload_n 0, 1) := by decide +kernel
theorem d9_6 : decode prog_5_method_6_code 6 = .ok (.invokevirtual 36, 3) := by decide +kernel
theorem d9_9 : decode prog_5_method_6_code 9 = .ok (.istore_n 2, 1) := by decide +kernel
theorem d9_10 : decode prog_5_method_6_code 10 = .ok (.iload_n 2, 1) := by decide +kernel
theorem d9_11 : decode prog_5_method_6_code 11 = .ok (.bipush 31, 2) := by decide +kernel
theorem d9_13 : decode prog_5_method_6_code 13 = .ok (.iand, 1) := by decide +kernel
theorem d9_14 : decode prog_5_method_6_code 14 = .ok (.bipush 31, 2) := by decide +kernel
theorem d9_16 : decode prog_5_method_6_code 16 = .ok (.if_icmp .ne 17, 3) := by decide +kernel
theorem d9_19 : decode prog_5_method_6_code 19 = .ok (.new 27, 3) := by decide +kernel
theorem d9_22 : decode prog_5_method_6_code 22 = .ok (.dup, 1) := by decide +kernel
theorem d9_23 : decode prog_5_method_6_code 23 = .ok (.iload_n 1, 1) := by decide +kernel
theorem d9_29 : decode prog_5_method_6_code 29 = .ok (.invokespecial 33, 3) := by decide +kernel
theorem d9_33 : decode prog_5_method_6_code 33 = .ok (.aload_n 0, 1) := by decide +kernel
theorem d9_34 : decode prog_5_method_6_code 34 = .ok (.getfield 20, 3) := by decide +kernel
theorem d9_37 : decode prog_5_method_6_code 37 = .ok (.aload_n 0, 1) := by decide +kernel
theorem d9_38 : decode prog_5_method_6_code 38 = .ok (.getfield 16, 3) := by decide +kernel
theorem d9_41 : decode prog_5_method_6_code 41 = .ok (.isub, 1) := by decide +kernel
theorem d9_42 : decode prog_5_method_6_code 42 = .ok (.iconst 2, 1) := by decide +kernel
theorem d9_43 : decode prog_5_method_6_code 43 = .ok (.if_icmp .ge 17, 3) := by decide +kernel
theorem d9_46 : decode prog_5_method_6_code 46 = .ok (.new 27, 3) := by decide +kernel
theorem d9_49 : decode prog_5_method_6_code 49 = .ok (.dup, 1) := by decide +kernel
theorem d9_50 : decode prog_5_method_6_code 50 = .ok (.iload_n 1, 1) := by decide +kernel
theorem d9_56 : decode prog_5_method_6_code 56 = .ok (.invokespecial 33, 3) := by decide +kernel
theorem d9_60 : decode prog_5_method_6_code 60 = .ok (.aload_n 0, 1) := by decide +kernel
theorem d9_61 : decode prog_5_method_6_code 61 = .ok (.getfield 12, 3) := by decide +kernel
theorem d9_64 : decode prog_5_method_6_code 64 = .ok (.aload_n 0, 1) := by decide +kernel
theorem d9_65 : decode prog_5_method_6_code 65 = .ok (.getfield 16, 3) := by decide +kernel
theorem d9_68 : decode prog_5_method_6_code 68 = .ok (.iconst 1, 1) := by decide +kernel
theorem d9_69 : decode prog_5_method_6_code 69 = .ok (.iadd, 1) := by decide +kernel
theorem d9_70 : decode prog_5_method_6_code 70 = .ok (.baload, 1) := by decide +kernel
theorem d9_71 : decode prog_5_method_6_code 71 = .ok (.sipush 255, 3) := by decide +kernel
theorem d9_74 : decode prog_5_method_6_code 74 = .ok (.iand, 1) := by decide +kernel
theorem d9_75 : decode prog_5_method_6_code 75 = .ok (.istore_n 3, 1) := by decide +kernel
theorem d9_76 : decode prog_5_method_6_code 76 = .ok (.aload_n 0, 1) := by decide +kernel
theorem d9_77 : decode prog_5_method_6_code 77 = .ok (.dup, 1) := by decide +kernel
theorem d9_78 : decode prog_5_method_6_code 78 = .ok (.getfield 16, 3) := by decide +kernel
theorem d9_81 : decode prog_5_method_6_code 81 = .ok (.iconst 2, 1) := by decide +kernel
theorem d9_82 : decode prog_5_method_6_code 82 = .ok (.iadd, 1) := by decide +kernel
theorem d9_83 : decode prog_5_method_6_code 83 = .ok (.putfield 16, 3) := by decide +kernel
theorem d9_86 : decode prog_5_method_6_code 86 = .ok (.iload_n 3, 1) := by decide +kernel
theorem d9_87 : decode prog_5_method_6_code 87 = .ok (.i2l, 1) := by decide +kernel
theorem d9_88 : decode prog_5_method_6_code 88 = .ok (.lstore 4, 2) := by decide +kernel
theorem d9_90 : decode prog_5_method_6_code 90 = .ok (.iload_n 3, 1) := by decide +kernel
theorem d9_91 : decode prog_5_method_6_code 91 = .ok (.sipush 128, 3) := by decide +kernel
theorem d9_94 : decode prog_5_method_6_code 94 = .ok (.if_icmp .ne 17, 3) := by decide +kernel
theorem d9_97 : decode prog_5_method_6_code 97 = .ok (.new 27, 3) := by decide +kernel
theorem d9_100 : decode prog_5_method_6_code 100 = .ok (.dup, 1) := by decide +kernel
theorem d9_101 : decode prog_5_method_6_code 101 = .ok (.iload_n 1, 1) := by decide +kernel
theorem d9_107 : decode prog_5_method_6_code 107 = .ok (.invokespecial 33, 3) := by decide +kernel
theorem d9_111 : decode prog_5_method_6_code 111 = .ok (.iload_n 3, 1) := by decide +kernel
theorem d9_112 : decode prog_5_method_6_code 112 = .ok (.sipush 128, 3) := by decide +kernel
theorem d9_115 : decode prog_5_method_6_code 115 = .ok (.if_icmp .le 138, 3) := by decide +kernel
theorem d9_118 : decode prog_5_method_6_code 118 = .ok (.iload_n 3, 1) := by decide +kernel
theorem d9_119 : decode prog_5_method_6_code 119 = .ok (.bipush 127, 2) := by decide +kernel
theorem d9_121 : decode prog_5_method_6_code 121 = .ok (.iand, 1) := by decide +kernel
theorem d9_122 : decode prog_5_method_6_code 122 = .ok (.istore 6, 2) := by decide +kernel
theorem d9_124 : decode prog_5_method_6_code 124 = .ok (.iload 6, 2) := by decide +kernel
theorem d9_126 : decode prog_5_method_6_code 126 = .ok (.iconst 4, 1) := by decide +kernel
theorem d9_127 : decode prog_5_method_6_code 127 = .ok (.if_icmp .gt 17, 3) := by decide +kernel
theorem d9_130 : decode prog_5_method_6_code 130 = .ok (.iload 6, 2) := by decide +kernel
theorem d9_132 : decode prog_5_method_6_code 132 = .ok (.aload_n 0, 1) := by decide +kernel
theorem d9_133 : decode prog_5_method_6_code 133 = .ok (.getfield 20, 3) := by decide +kernel
theorem d9_136 : decode prog_5_method_6_code 136 = .ok (.aload_n 0, 1) := by decide +kernel
theorem d9_137 : decode prog_5_method_6_code 137 = .ok (.getfield 16, 3) := by decide +kernel
theorem d9_140 : decode prog_5_method_6_code 140 = .ok (.isub, 1) := by decide +kernel
theorem d9_141 : decode prog_5_method_6_code 141 = .ok (.if_icmp .le 26, 3) := by decide +kernel
theorem d9_144 : decode prog_5_method_6_code 144 = .ok (.new 27, 3) := by decide +kernel
theorem d9_147 : decode prog_5_method_6_code 147 = .ok (.dup, 1) := by decide +kernel
theorem d9_148 : decode prog_5_method_6_code 148 = .ok (.iload_n 1, 1) := by decide +kernel
theorem d9_149 : decode prog_5_method_6_code 149 = .ok (.aload_n 0, 1) := by decide +kernel
theorem d9_150 : decode prog_5_method_6_code 150 = .ok (.getfield 20, 3) := by decide +kernel
theorem d9_153 : decode prog_5_method_6_code 153 = .ok (.aload_n 0, 1) := by decide +kernel
theorem d9_154 : decode prog_5_method_6_code 154 = .ok (.getfield 16, 3) := by decide +kernel
theorem d9_157 : decode prog_5_method_6_code 157 = .ok (.isub, 1) := by decide +kernel
theorem d9_163 : decode prog_5_method_6_code 163 = .ok (.invokespecial 33, 3) := by decide +kernel
theorem d9_167 : decode prog_5_method_6_code 167 = .ok (.lconst 0, 1) := by decide +kernel
theorem d9_168 : decode prog_5_method_6_code 168 = .ok (.lstore 4, 2) := by decide +kernel
theorem d9_170 : decode prog_5_method_6_code 170 = .ok (.iconst 0, 1) := by decide +kernel
theorem d9_171 : decode prog_5_method_6_code 171 = .ok (.istore 7, 2) := by decide +kernel
theorem d9_173 : decode prog_5_method_6_code 173 = .ok (.iload 7, 2) := by decide +kernel
theorem d9_175 : decode prog_5_method_6_code 175 = .ok (.iload 6, 2) := by decide +kernel
theorem d9_177 : decode prog_5_method_6_code 177 = .ok (.if_icmp .ge 38, 3) := by decide +kernel
theorem d9_180 : decode prog_5_method_6_code 180 = .ok (.lload 4, 2) := by decide +kernel
theorem d9_182 : decode prog_5_method_6_code 182 = .ok (.bipush 8, 2) := by decide +kernel
theorem d9_184 : decode prog_5_method_6_code 184 = .ok (.lshl, 1) := by decide +kernel
theorem d9_185 : decode prog_5_method_6_code 185 = .ok (.aload_n 0, 1) := by decide +kernel
theorem d9_186 : decode prog_5_method_6_code 186 = .ok (.getfield 12, 3) := by decide +kernel
theorem d9_189 : decode prog_5_method_6_code 189 = .ok (.aload_n 0, 1) := by decide +kernel
theorem d9_190 : decode prog_5_method_6_code 190 = .ok (.dup, 1) := by decide +kernel
theorem d9_191 : decode prog_5_method_6_code 191 = .ok (.getfield 16, 3) := by decide +kernel
theorem d9_194 : decode prog_5_method_6_code 194 = .ok (.dup_x1, 1) := by decide +kernel
theorem d9_195 : decode prog_5_method_6_code 195 = .ok (.iconst 1, 1) := by decide +kernel
theorem d9_196 : decode prog_5_method_6_code 196 = .ok (.iadd, 1) := by decide +kernel
theorem d9_197 : decode prog_5_method_6_code 197 = .ok (.putfield 16, 3) := by decide +kernel
theorem d9_200 : decode prog_5_method_6_code 200 = .ok (.baload, 1) := by decide +kernel
theorem d9_201 : decode prog_5_method_6_code 201 = .ok (.sipush 255, 3) := by decide +kernel
theorem d9_204 : decode prog_5_method_6_code 204 = .ok (.iand, 1) := by decide +kernel
theorem d9_205 : decode prog_5_method_6_code 205 = .ok (.i2l, 1) := by decide +kernel
theorem d9_206 : decode prog_5_method_6_code 206 = .ok (.lor, 1) := by decide +kernel
theorem d9_207 : decode prog_5_method_6_code 207 = .ok (.lstore 4, 2) := by decide +kernel
theorem d9_209 : decode prog_5_method_6_code 209 = .ok (.iinc 7 1, 3) := by decide +kernel
theorem d9_212 : decode prog_5_method_6_code 212 = .ok (.goto (-39), 3) := by decide +kernel
theorem d9_215 : decode prog_5_method_6_code 215 = .ok (.lload 4, 2) := by decide +kernel
theorem d9_217 : decode prog_5_method_6_code 217 = .ok (.ldc2_w 56, 3) := by decide +kernel
theorem d9_220 : decode prog_5_method_6_code 220 = .ok (.lcmp, 1) := by decide +kernel
theorem d9_221 : decode prog_5_method_6_code 221 = .ok (.ifCond .lt 18, 3) := by decide +kernel
theorem d9_224 : decode prog_5_method_6_code 224 = .ok (.lload 4, 2) := by decide +kernel
theorem d9_226 : decode prog_5_method_6_code 226 = .ok (.bipush 8, 2) := by decide +kernel
theorem d9_228 : decode prog_5_method_6_code 228 = .ok (.iload 6, 2) := by decide +kernel
theorem d9_230 : decode prog_5_method_6_code 230 = .ok (.iconst 1, 1) := by decide +kernel
theorem d9_231 : decode prog_5_method_6_code 231 = .ok (.isub, 1) := by decide +kernel
theorem d9_232 : decode prog_5_method_6_code 232 = .ok (.imul, 1) := by decide +kernel
theorem d9_233 : decode prog_5_method_6_code 233 = .ok (.lshr, 1) := by decide +kernel
theorem d9_234 : decode prog_5_method_6_code 234 = .ok (.lconst 0, 1) := by decide +kernel
theorem d9_235 : decode prog_5_method_6_code 235 = .ok (.lcmp, 1) := by decide +kernel
theorem d9_236 : decode prog_5_method_6_code 236 = .ok (.ifCond .ne 17, 3) := by decide +kernel
theorem d9_239 : decode prog_5_method_6_code 239 = .ok (.new 27, 3) := by decide +kernel
theorem d9_242 : decode prog_5_method_6_code 242 = .ok (.dup, 1) := by decide +kernel
theorem d9_243 : decode prog_5_method_6_code 243 = .ok (.iload_n 1, 1) := by decide +kernel
theorem d9_249 : decode prog_5_method_6_code 249 = .ok (.invokespecial 33, 3) := by decide +kernel
theorem d9_253 : decode prog_5_method_6_code 253 = .ok (.lload 4, 2) := by decide +kernel
theorem d9_255 : decode prog_5_method_6_code 255 = .ok (.aload_n 0, 1) := by decide +kernel
theorem d9_256 : decode prog_5_method_6_code 256 = .ok (.getfield 20, 3) := by decide +kernel
theorem d9_259 : decode prog_5_method_6_code 259 = .ok (.aload_n 0, 1) := by decide +kernel
theorem d9_260 : decode prog_5_method_6_code 260 = .ok (.getfield 16, 3) := by decide +kernel
theorem d9_263 : decode prog_5_method_6_code 263 = .ok (.isub, 1) := by decide +kernel
theorem d9_264 : decode prog_5_method_6_code 264 = .ok (.i2l, 1) := by decide +kernel
theorem d9_265 : decode prog_5_method_6_code 265 = .ok (.lcmp, 1) := by decide +kernel
theorem d9_266 : decode prog_5_method_6_code 266 = .ok (.ifCond .le 28, 3) := by decide +kernel
theorem d9_269 : decode prog_5_method_6_code 269 = .ok (.new 27, 3) := by decide +kernel
theorem d9_272 : decode prog_5_method_6_code 272 = .ok (.dup, 1) := by decide +kernel
theorem d9_273 : decode prog_5_method_6_code 273 = .ok (.iload_n 1, 1) := by decide +kernel
theorem d9_274 : decode prog_5_method_6_code 274 = .ok (.lload 4, 2) := by decide +kernel
theorem d9_276 : decode prog_5_method_6_code 276 = .ok (.aload_n 0, 1) := by decide +kernel
theorem d9_277 : decode prog_5_method_6_code 277 = .ok (.getfield 20, 3) := by decide +kernel
theorem d9_280 : decode prog_5_method_6_code 280 = .ok (.aload_n 0, 1) := by decide +kernel
theorem d9_281 : decode prog_5_method_6_code 281 = .ok (.getfield 16, 3) := by decide +kernel
theorem d9_284 : decode prog_5_method_6_code 284 = .ok (.isub, 1) := by decide +kernel
theorem d9_290 : decode prog_5_method_6_code 290 = .ok (.invokespecial 33, 3) := by decide +kernel
theorem d9_294 : decode prog_5_method_6_code 294 = .ok (.new 2, 3) := by decide +kernel
theorem d9_297 : decode prog_5_method_6_code 297 = .ok (.dup, 1) := by decide +kernel
theorem d9_298 : decode prog_5_method_6_code 298 = .ok (.aload_n 0, 1) := by decide +kernel
theorem d9_299 : decode prog_5_method_6_code 299 = .ok (.getfield 12, 3) := by decide +kernel
theorem d9_302 : decode prog_5_method_6_code 302 = .ok (.aload_n 0, 1) := by decide +kernel
theorem d9_303 : decode prog_5_method_6_code 303 = .ok (.getfield 16, 3) := by decide +kernel
theorem d9_306 : decode prog_5_method_6_code 306 = .ok (.aload_n 0, 1) := by decide +kernel
theorem d9_307 : decode prog_5_method_6_code 307 = .ok (.getfield 16, 3) := by decide +kernel
theorem d9_310 : decode prog_5_method_6_code 310 = .ok (.lload 4, 2) := by decide +kernel
theorem d9_312 : decode prog_5_method_6_code 312 = .ok (.l2i, 1) := by decide +kernel
theorem d9_313 : decode prog_5_method_6_code 313 = .ok (.iadd, 1) := by decide +kernel
theorem d9_314 : decode prog_5_method_6_code 314 = .ok (.invokespecial 1, 3) := by decide +kernel
theorem d9_317 : decode prog_5_method_6_code 317 = .ok (.astore 6, 2) := by decide +kernel
theorem d9_319 : decode prog_5_method_6_code 319 = .ok (.aload_n 0, 1) := by decide +kernel
theorem d9_320 : decode prog_5_method_6_code 320 = .ok (.dup, 1) := by decide +kernel
theorem d9_321 : decode prog_5_method_6_code 321 = .ok (.getfield 16, 3) := by decide +kernel
theorem d9_324 : decode prog_5_method_6_code 324 = .ok (.lload 4, 2) := by decide +kernel
theorem d9_326 : decode prog_5_method_6_code 326 = .ok (.l2i, 1) := by decide +kernel
theorem d9_327 : decode prog_5_method_6_code 327 = .ok (.iadd, 1) := by decide +kernel
theorem d9_328 : decode prog_5_method_6_code 328 = .ok (.putfield 16, 3) := by decide +kernel
theorem d9_331 : decode prog_5_method_6_code 331 = .ok (.aload 6, 2) := by decide +kernel
theorem d9_333 : decode prog_5_method_6_code 333 = .ok (.areturn, 1) := by decide +kernel
theorem ef_9 (m : MethodId) (ob : Addr) : entryFrame m #[(.ref ob)] 8 = mkF m 0 #[.val (.ref ob), .unset, .unset, .unset, .unset, .unset, .unset, .unset] [] := by first | (simp [entryFrame, mkF, argsToLocals, Value.category]; done) | rfl
set_option maxRecDepth 65536 in
set_option maxHeartbeats 40000000 in
theorem rm9 (l : Launch) (Z : State) (a0 : Array Value) (hw : ∀ d ∈ tables_1, d.before a0 Z = true) (ob : Addr) (h0 : Heap) (n0 : Nat) (Z0 : n0 ≤ h0.size) (ar : Addr) (y0 : Int32) (y1 : Int32) (y2 : Int32) (y3 : Int32) (y4 : Int32) (y5 : Int32) (E_ob : Exa Z h0 ob "com/example/inwrap/inwrap/DerReader") (g_ob : n0 ≤ ob) (F_input : Fld Z h0 ob "com/example/inwrap/inwrap/DerReader" "input" "[B" (.ref ar)) (F_position : Fld Z h0 ob "com/example/inwrap/inwrap/DerReader" "position" "I" (.int (0 : Int32))) (F_end : Fld Z h0 ob "com/example/inwrap/inwrap/DerReader" "end" "I" (.int (6 : Int32))) (V_ar : AI Z h0 ar .byte [y0, y1, y2, y3, y4, y5]) (nar_ob : ar ≠ ob) (htag : ¬ (((y0 &&& (255 : Int32)) &&& (31 : Int32)) = (31 : Int32))) (hlen : 0 ≤ (y1 &&& (255 : Int32)).toInt ∧ (y1 &&& (255 : Int32)).toInt ≤ 4) :
    Con l Z (⟨"com/example/inwrap/inwrap/DerReader", "readAny", "()Lcom/example/inwrap/inwrap/DerReader;"⟩ : MethodName) prog_5_method_6_code 8 (some (.object "com/example/inwrap/inwrap/DerReader")) ({ frames := 2, cells := 1, slots := 3, locals := 37 } : Room) #[(.ref ob)] h0 (fun v h L => ∃ b : Addr, v = some (.ref b) ∧ Fr n0 L ∧ Keep h0 h [ob] ∧ h0.size ≤ b ∧ Exa Z h b "com/example/inwrap/inwrap/DerReader" ∧ Fld Z h b "com/example/inwrap/inwrap/DerReader" "input" "[B" (.ref ar) ∧ Fld Z h b "com/example/inwrap/inwrap/DerReader" "position" "I" (.int 2) ∧ Fld Z h b "com/example/inwrap/inwrap/DerReader" "end" "I" (.int ((2 : Int32) + (y1 &&& (255 : Int32)))) ∧ Fld Z h ob "com/example/inwrap/inwrap/DerReader" "position" "I" (.int ((2 : Int32) + (y1 &&& (255 : Int32)))) ∧ Fld Z h ob "com/example/inwrap/inwrap/DerReader" "input" "[B" (.ref ar) ∧ Fld Z h ob "com/example/inwrap/inwrap/DerReader" "end" "I" (.int (6 : Int32))) := by
  refine Con.of (plainFor_of_name (by first | (simp [plainName, overriddenIn]; done) | decide +kernel)) ?_
  intro p e s m below meth c T X hx hZ hby hml hown hnm hret hlk e0
  rw [ef_9]
  have N0 := Fr.nil n0
  have KP0 := Keep.refl h0 [ob]
  show Go p e below s 1 3 (fun v h L => ∃ b : Addr, v = some (.ref b) ∧ Fr n0 L ∧ Keep h0 h [ob] ∧ h0.size ≤ b ∧ Exa Z h b "com/example/inwrap/inwrap/DerReader" ∧ Fld Z h b "com/example/inwrap/inwrap/DerReader" "input" "[B" (.ref ar) ∧ Fld Z h b "com/example/inwrap/inwrap/DerReader" "position" "I" (.int 2) ∧ Fld Z h b "com/example/inwrap/inwrap/DerReader" "end" "I" (.int ((2 : Int32) + (y1 &&& (255 : Int32)))) ∧ Fld Z h ob "com/example/inwrap/inwrap/DerReader" "position" "I" (.int ((2 : Int32) + (y1 &&& (255 : Int32)))) ∧ Fld Z h ob "com/example/inwrap/inwrap/DerReader" "input" "[B" (.ref ar) ∧ Fld Z h ob "com/example/inwrap/inwrap/DerReader" "end" "I" (.int (6 : Int32))) T (mkF m 0 #[.val (.ref ob), .unset, .unset, .unset, .unset, .unset, .unset, .unset] [])
  refine w_aloadN X hx (hb hby d9_0) (pc' := 1) rfl rfl rfl ?_
  refine w_getF X hx hZ hown e0 F_position (hw _ (List.mem_of_getElem? (i := 19) rfl)) (hb hby d9_1) (pc' := 4) rfl (fun T18 X18 e18 => ?_)
  refine w_istoreN (Ls' := #[.val (.ref ob), .val (.int (0 : Int32)), .unset, .unset, .unset, .unset, .unset, .unset]) X18 hx (hb hby d9_4) (pc' := 5) rfl rfl ?_
  refine w_aloadN X18 hx (hb hby d9_5) (pc' := 6) rfl rfl rfl ?_
  refine w_callV (argsL := []) (rest := []) (a := ob) X18 hx hZ hown e18 E_ob (rm10 l Z a0 hw ob h0 n0 (0 : Int32) (6 : Int32) [y0, y1, y2, y3, y4, y5] F_input F_position F_end V_ar E_ob (by decide) (by decide) (by show _ < 6; decide)) (hw _ (List.mem_of_getElem? (i := 52) rfl)) (hw _ (List.mem_of_getElem? (i := 53) rfl)) (hw _ (List.mem_of_getElem? (i := 55) rfl)) (hw _ (List.mem_of_getElem? (i := 54) rfl)) (hw _ (List.mem_of_getElem? (i := 7) rfl)) (hw _ (List.mem_of_getElem? (i := 56) rfl)) (by decide) (by decide) (W := 0) (by decide) (by decide) (by decide) (by rw [hml]; rfl) (lenOf pd_1 rfl) (Nat.le_refl _) rfl (hb hby d9_6) (pc' := 9) rfl (fun T19 L19 v19 X19 hQ19 => ?_)
  obtain ⟨rfl, N19q, e19⟩ := hQ19
  have N19 := Fr.app N0 N19q
  have X19 : Stand p l e ({ frames := 2, cells := 1, slots := 3, locals := 37 } : Room) s m _ below meth c T19 _ 0 0 := X19
  show Go p e below s 1 3 (fun v h L => ∃ b : Addr, v = some (.ref b) ∧ Fr n0 L ∧ Keep h0 h [ob] ∧ h0.size ≤ b ∧ Exa Z h b "com/example/inwrap/inwrap/DerReader" ∧ Fld Z h b "com/example/inwrap/inwrap/DerReader" "input" "[B" (.ref ar) ∧ Fld Z h b "com/example/inwrap/inwrap/DerReader" "position" "I" (.int 2) ∧ Fld Z h b "com/example/inwrap/inwrap/DerReader" "end" "I" (.int ((2 : Int32) + (y1 &&& (255 : Int32)))) ∧ Fld Z h ob "com/example/inwrap/inwrap/DerReader" "position" "I" (.int ((2 : Int32) + (y1 &&& (255 : Int32)))) ∧ Fld Z h ob "com/example/inwrap/inwrap/DerReader" "input" "[B" (.ref ar) ∧ Fld Z h ob "com/example/inwrap/inwrap/DerReader" "end" "I" (.int (6 : Int32))) T19 (mkF m 9 #[.val (.ref ob), .val (.int (0 : Int32)), .unset, .unset, .unset, .unset, .unset, .unset] [(.int (K10_0 (0 : Int32) (6 : Int32) [y0, y1, y2, y3, y4, y5] ))])
  refine w_istoreN (Ls' := #[.val (.ref ob), .val (.int (0 : Int32)), .val (.int (K10_0 (0 : Int32) (6 : Int32) [y0, y1, y2, y3, y4, y5] )), .unset, .unset, .unset, .unset, .unset]) X19 hx (hb hby d9_9) (pc' := 10) rfl rfl ?_
  refine w_iloadN X19 hx (hb hby d9_10) (pc' := 11) rfl rfl ?_
  refine w_bipush (v := 31) X19 hx (hb hby d9_11) (pc' := 13) rfl rfl ?_
  refine w_iand X19 hx (hb hby d9_13) (pc' := 14) rfl ?_
  refine w_bipush (v := 31) X19 hx (hb hby d9_14) (pc' := 16) rfl rfl ?_
  have hf16 : ¬ (((K10_0 (0 : Int32) (6 : Int32) [y0, y1, y2, y3, y4, y5] ) &&& (31 : Int32)) = (31 : Int32)) := htag
  refine w_icmp_ne X19 hx (hb hby d9_16) (pf := 19) (pt := 33) rfl (by decide) (by decide) (fun hc16 => ?_) (fun hc => absurd hc hf16)
  refine w_aloadN X19 hx (hb hby d9_33) (pc' := 34) rfl rfl rfl ?_
  refine w_getF X19 hx hZ hown e19 F_end (hw _ (List.mem_of_getElem? (i := 21) rfl)) (hb hby d9_34) (pc' := 37) rfl (fun T20 X20 e20 => ?_)
  refine w_aloadN X20 hx (hb hby d9_37) (pc' := 38) rfl rfl rfl ?_
  refine w_getF X20 hx hZ hown e20 F_position (hw _ (List.mem_of_getElem? (i := 19) rfl)) (hb hby d9_38) (pc' := 41) rfl (fun T21 X21 e21 => ?_)
  refine w_isub X21 hx (hb hby d9_41) (pc' := 42) rfl ?_
  rw [show ((6 : Int32) - (0 : Int32)) = (6 : Int32) from by decide]
  refine w_iconst (v := 2) X21 hx (hb hby d9_42) (pc' := 43) rfl rfl ?_
  have hf43 : ¬ ((6 : Int32) < (2 : Int32)) := (by decide)
  refine w_icmp_ge X21 hx (hb hby d9_43) (pf := 46) (pt := 60) rfl (by decide) (by decide) (fun hc43 => ?_) (fun hc => absurd hc hf43)
  refine w_aloadN X21 hx (hb hby d9_60) (pc' := 61) rfl rfl rfl ?_
  refine w_getF X21 hx hZ hown e21 F_input (hw _ (List.mem_of_getElem? (i := 17) rfl)) (hb hby d9_61) (pc' := 64) rfl (fun T22 X22 e22 => ?_)
  refine w_aloadN X22 hx (hb hby d9_64) (pc' := 65) rfl rfl rfl ?_
  refine w_getF X22 hx hZ hown e22 F_position (hw _ (List.mem_of_getElem? (i := 19) rfl)) (hb hby d9_65) (pc' := 68) rfl (fun T23 X23 e23 => ?_)
  refine w_iconst (v := 1) X23 hx (hb hby d9_68) (pc' := 69) rfl rfl ?_
  refine w_iadd X23 hx (hb hby d9_69) (pc' := 70) rfl ?_
  rw [show ((0 : Int32) + (1 : Int32)) = (1 : Int32) from by decide]
  refine w_baload X23 hx hZ e23 V_ar (v := y1) (by decide) rfl (hb hby d9_70) (pc' := 71) rfl ?_
  refine w_sipush (v := 255) X23 hx (hb hby d9_71) (pc' := 74) rfl rfl ?_
  refine w_iand X23 hx (hb hby d9_74) (pc' := 75) rfl ?_
  refine w_istoreN (Ls' := #[.val (.ref ob), .val (.int (0 : Int32)), .val (.int (K10_0 (0 : Int32) (6 : Int32) [y0, y1, y2, y3, y4, y5] )), .val (.int (y1 &&& (255 : Int32))), .unset, .unset, .unset, .unset]) X23 hx (hb hby d9_75) (pc' := 76) rfl rfl ?_
  refine w_aloadN X23 hx (hb hby d9_76) (pc' := 77) rfl rfl rfl ?_
  refine w_dup X23 hx (hb hby d9_77) (pc' := 78) rfl rfl ?_
  refine w_getF X23 hx hZ hown e23 F_position (hw _ (List.mem_of_getElem? (i := 19) rfl)) (hb hby d9_78) (pc' := 81) rfl (fun T24 X24 e24 => ?_)
  refine w_iconst (v := 2) X24 hx (hb hby d9_81) (pc' := 82) rfl rfl ?_
  refine w_iadd X24 hx (hb hby d9_82) (pc' := 83) rfl ?_
  rw [show ((0 : Int32) + (2 : Int32)) = (2 : Int32) from by decide]
  refine w_putF X24 hx hZ hown e24 F_position E_ob (hw _ (List.mem_of_getElem? (i := 19) rfl)) (Or.inl (hw _ (List.mem_of_getElem? (i := 20) rfl))) (hw _ (List.mem_of_getElem? (i := 6) rfl)) (ty := .int) (by decide) rfl rfl (hb hby d9_83) (pc' := 86) rfl (fun T25 h25 X25 e25 W25 => ?_)
  have F25 := F_position.same W25
  have KP25 := KP0.wr W25 (Or.inl (by simp))
  have N25 := Fr.snoc X25 N19 g_ob
  have zn25 : n0 ≤ h25.size := by rw [W25.size]; exact Z0
  refine w_iloadN X25 hx (hb hby d9_86) (pc' := 87) rfl rfl ?_
  refine w_i2l X25 hx (hb hby d9_87) (pc' := 88) rfl ?_
  refine w_lstore (Ls' := #[.val (.ref ob), .val (.int (0 : Int32)), .val (.int (K10_0 (0 : Int32) (6 : Int32) [y0, y1, y2, y3, y4, y5] )), .val (.int (y1 &&& (255 : Int32))), .val (.long (y1 &&& (255 : Int32)).toInt64), .second, .unset, .unset]) X25 hx (hb hby d9_88) (pc' := 90) rfl rfl ?_
  refine w_iloadN X25 hx (hb hby d9_90) (pc' := 91) rfl rfl ?_
  refine w_sipush (v := 128) X25 hx (hb hby d9_91) (pc' := 94) rfl rfl ?_
  have hf94 : ¬ ((y1 &&& (255 : Int32)) = (128 : Int32)) := (own_small hlen (by decide)).1
  refine w_icmp_ne X25 hx (hb hby d9_94) (pf := 97) (pt := 111) rfl (by decide) (by decide) (fun hc94 => ?_) (fun hc => absurd hc hf94)
  refine w_iloadN X25 hx (hb hby d9_111) (pc' := 112) rfl rfl ?_
  refine w_sipush (v := 128) X25 hx (hb hby d9_112) (pc' := 115) rfl rfl ?_
  have hf115 : ¬ ((128 : Int32) < (y1 &&& (255 : Int32))) := (own_small hlen (by decide)).2
  refine w_icmp_le X25 hx (hb hby d9_115) (pf := 118) (pt := 253) rfl (by decide) (by decide) (fun hc115 => ?_) (fun hc => absurd hc hf115)
  refine w_lload X25 hx (hb hby d9_253) (pc' := 255) rfl rfl ?_
  refine w_aloadN X25 hx (hb hby d9_255) (pc' := 256) rfl rfl rfl ?_
  have f26 := F_end.other W25 (Or.inr (slot_ne (Or.inr (hw _ (List.mem_of_getElem? (i := 22) rfl))) (Or.inl (hw _ (List.mem_of_getElem? (i := 20) rfl))) (by decide) (t := .int) (t' := .int) (by decide) (by decide)))
  refine w_getF X25 hx hZ hown e25 f26 (hw _ (List.mem_of_getElem? (i := 21) rfl)) (hb hby d9_256) (pc' := 259) rfl (fun T27 X27 e27 => ?_)
  refine w_aloadN X27 hx (hb hby d9_259) (pc' := 260) rfl rfl rfl ?_
  refine w_getF X27 hx hZ hown e27 F25 (hw _ (List.mem_of_getElem? (i := 19) rfl)) (hb hby d9_260) (pc' := 263) rfl (fun T28 X28 e28 => ?_)
  refine w_isub X28 hx (hb hby d9_263) (pc' := 264) rfl ?_
  rw [show ((6 : Int32) - (2 : Int32)) = (4 : Int32) from by decide]
  refine w_i2l X28 hx (hb hby d9_264) (pc' := 265) rfl ?_
  rw [show (4 : Int32).toInt64 = (4 : Int64) from by decide]
  refine w_lcmp X28 hx (hb hby d9_265) (pc' := 266) rfl ?_
  have hf266 : ¬ ((4 : Int64) < (y1 &&& (255 : Int32)).toInt64) := own_fit hlen (by decide)
  refine w_ifL_le X28 hx (hb hby d9_266) (pf := 269) (pt := 294) rfl (by decide) (by decide) (fun hc266 => ?_) (fun hc => absurd hc hf266)
  refine w_newO X28 hx hZ hown e28 (hw _ (List.mem_of_getElem? (i := 62) rfl)) (hw _ (List.mem_of_getElem? (i := 6) rfl)) (hw _ (List.mem_of_getElem? (i := 7) rfl)) (hb hby d9_294) (by decide) (by decide) (pc' := 297) rfl (fun T29 h29 b29 X29 e29 E29 q29 A29 D29 => ?_)
  have g_b29 : n0 ≤ b29 := by rw [q29]; exact zn25
  have f30 := E_ob.wr W25
  have ne_ob_b29 : ob ≠ b29 := by rw [q29]; exact Nat.ne_of_lt f30.lt
  have f31 := V_ar.other W25 nar_ob
  have ne_ar_b29 : ar ≠ b29 := by rw [q29]; exact Nat.ne_of_lt f31.lt
  have sz_b29 : h0.size ≤ b29 := by rw [q29]; exact KP25.1
  have KP29 := KP25.ext E29
  have F_input_b29 : Fld Z h29 b29 "com/example/inwrap/inwrap/DerReader" "input" "[B" .null := D29 (Or.inr (hw _ (List.mem_of_getElem? (i := 18) rfl))) (ty := (.array .byte)) (by decide)
  have F_position_b29 : Fld Z h29 b29 "com/example/inwrap/inwrap/DerReader" "position" "I" (.int (0 : Int32)) := D29 (Or.inl (hw _ (List.mem_of_getElem? (i := 20) rfl))) (ty := .int) (by decide)
  have F_end_b29 : Fld Z h29 b29 "com/example/inwrap/inwrap/DerReader" "end" "I" (.int (0 : Int32)) := D29 (Or.inr (hw _ (List.mem_of_getElem? (i := 22) rfl))) (ty := .int) (by decide)
  have zn29 : n0 ≤ h29.size := Nat.le_trans zn25 E29.1
  refine w_dup X29 hx (hb hby d9_297) (pc' := 298) rfl rfl ?_
  refine w_aloadN X29 hx (hb hby d9_298) (pc' := 299) rfl rfl rfl ?_
  have f32 := F_input.other W25 (Or.inr (slot_ne (Or.inr (hw _ (List.mem_of_getElem? (i := 18) rfl))) (Or.inl (hw _ (List.mem_of_getElem? (i := 20) rfl))) (by decide) (t := (.array .byte)) (t' := .int) (by decide) (by decide)))
  have f33 := f32.ext E29
  refine w_getF X29 hx hZ hown e29 f33 (hw _ (List.mem_of_getElem? (i := 17) rfl)) (hb hby d9_299) (pc' := 302) rfl (fun T34 X34 e34 => ?_)
  refine w_aloadN X34 hx (hb hby d9_302) (pc' := 303) rfl rfl rfl ?_
  have f35 := F25.ext E29
  refine w_getF X34 hx hZ hown e34 f35 (hw _ (List.mem_of_getElem? (i := 19) rfl)) (hb hby d9_303) (pc' := 306) rfl (fun T36 X36 e36 => ?_)
  refine w_aloadN X36 hx (hb hby d9_306) (pc' := 307) rfl rfl rfl ?_
  refine w_getF X36 hx hZ hown e36 f35 (hw _ (List.mem_of_getElem? (i := 19) rfl)) (hb hby d9_307) (pc' := 310) rfl (fun T37 X37 e37 => ?_)
  refine w_lload X37 hx (hb hby d9_310) (pc' := 312) rfl rfl ?_
  refine w_l2i X37 hx (hb hby d9_312) (pc' := 313) rfl ?_
  rw [own_cast]
  refine w_iadd X37 hx (hb hby d9_313) (pc' := 314) rfl ?_
  refine w_callI (argsL := [(.ref ar), (.int (2 : Int32)), (.int ((2 : Int32) + (y1 &&& (255 : Int32))))]) (rest := [(.ref b29)]) (a := b29) X37 hx hZ hown e37 (rm3 l Z a0 hw b29 ar (2 : Int32) ((2 : Int32) + (y1 &&& (255 : Int32))) h29 n0 zn29 A29 g_b29 F_input_b29 F_position_b29 F_end_b29) rfl (hw _ (List.mem_of_getElem? (i := 11) rfl)) (hw _ (List.mem_of_getElem? (i := 12) rfl)) (hw _ (List.mem_of_getElem? (i := 7) rfl)) (hw _ (List.mem_of_getElem? (i := 13) rfl)) (by decide) (by decide) (W := 1) (by decide) (by decide) (by decide) (by rw [hml]; rfl) (lenOf pd_2 rfl) (Nat.le_refl _) rfl (hb hby d9_314) (pc' := 317) rfl (fun T38 L38 v38 X38 hQ38 => ?_)
  obtain ⟨rfl, N38q, K38, F_input_38, F_position_38, F_end_38⟩ := hQ38
  have zn38 : n0 ≤ T38.heap.size := Nat.le_trans zn29 K38.1
  have KP38 := KP29.trans K38 (allS (Or.inr sz_b29) all0)
  have N38 := Fr.app N25 N38q
  have X38 : Stand p l e ({ frames := 2, cells := 1, slots := 3, locals := 37 } : Room) s m _ below meth c T38 _ 1 3 := X38
  show Go p e below s 1 3 (fun v h L => ∃ b : Addr, v = some (.ref b) ∧ Fr n0 L ∧ Keep h0 h [ob] ∧ h0.size ≤ b ∧ Exa Z h b "com/example/inwrap/inwrap/DerReader" ∧ Fld Z h b "com/example/inwrap/inwrap/DerReader" "input" "[B" (.ref ar) ∧ Fld Z h b "com/example/inwrap/inwrap/DerReader" "position" "I" (.int 2) ∧ Fld Z h b "com/example/inwrap/inwrap/DerReader" "end" "I" (.int ((2 : Int32) + (y1 &&& (255 : Int32)))) ∧ Fld Z h ob "com/example/inwrap/inwrap/DerReader" "position" "I" (.int ((2 : Int32) + (y1 &&& (255 : Int32)))) ∧ Fld Z h ob "com/example/inwrap/inwrap/DerReader" "input" "[B" (.ref ar) ∧ Fld Z h ob "com/example/inwrap/inwrap/DerReader" "end" "I" (.int (6 : Int32))) T38 (mkF m 317 #[.val (.ref ob), .val (.int (0 : Int32)), .val (.int (K10_0 (0 : Int32) (6 : Int32) [y0, y1, y2, y3, y4, y5] )), .val (.int (y1 &&& (255 : Int32))), .val (.long (y1 &&& (255 : Int32)).toInt64), .second, .unset, .unset] [(.ref b29)])
  refine w_astore (Ls' := #[.val (.ref ob), .val (.int (0 : Int32)), .val (.int (K10_0 (0 : Int32) (6 : Int32) [y0, y1, y2, y3, y4, y5] )), .val (.int (y1 &&& (255 : Int32))), .val (.long (y1 &&& (255 : Int32)).toInt64), .second, .val (.ref b29), .unset]) X38 hx (hb hby d9_317) (pc' := 319) rfl rfl rfl ?_
  refine w_aloadN X38 hx (hb hby d9_319) (pc' := 320) rfl rfl rfl ?_
  refine w_dup X38 hx (hb hby d9_320) (pc' := 321) rfl rfl ?_
  have f39 := f35.keep K38 (ninS ne_ob_b29 nin0)
  refine w_getF X38 hx hZ hown rfl f39 (hw _ (List.mem_of_getElem? (i := 19) rfl)) (hb hby d9_321) (pc' := 324) rfl (fun T40 X40 e40 => ?_)
  refine w_lload X40 hx (hb hby d9_324) (pc' := 326) rfl rfl ?_
  refine w_l2i X40 hx (hb hby d9_326) (pc' := 327) rfl ?_
  rw [own_cast]
  refine w_iadd X40 hx (hb hby d9_327) (pc' := 328) rfl ?_
  have f41 := f30.ext E29
  have f42 := f41.keep K38
  refine w_putF X40 hx hZ hown e40 f39 f42 (hw _ (List.mem_of_getElem? (i := 19) rfl)) (Or.inl (hw _ (List.mem_of_getElem? (i := 20) rfl))) (hw _ (List.mem_of_getElem? (i := 6) rfl)) (ty := .int) (by decide) rfl rfl (hb hby d9_328) (pc' := 331) rfl (fun T43 h43 X43 e43 W43 => ?_)
  have F43 := f39.same W43
  have KP43 := KP38.wr W43 (Or.inl (by simp))
  have N43 := Fr.snoc X43 N38 g_ob
  have zn43 : n0 ≤ h43.size := by rw [W43.size]; exact zn38
  refine w_aload X43 hx (hb hby d9_331) (pc' := 333) rfl rfl rfl ?_
  have f44 := A29.keep K38
  have f45 := f44.wr W43
  have f46 := F_input_38.other W43 (Or.inl (Ne.symm ne_ob_b29))
  have f47 := F_position_38.other W43 (Or.inl (Ne.symm ne_ob_b29))
  have f48 := F_end_38.other W43 (Or.inl (Ne.symm ne_ob_b29))
  have f49 := f33.keep K38 (ninS ne_ob_b29 nin0)
  have f50 := f49.other W43 (Or.inr (slot_ne (Or.inr (hw _ (List.mem_of_getElem? (i := 18) rfl))) (Or.inl (hw _ (List.mem_of_getElem? (i := 20) rfl))) (by decide) (t := (.array .byte)) (t' := .int) (by decide) (by decide)))
  have f51 := f26.ext E29
  have f52 := f51.keep K38 (ninS ne_ob_b29 nin0)
  have f53 := f52.other W43 (Or.inr (slot_ne (Or.inr (hw _ (List.mem_of_getElem? (i := 22) rfl))) (Or.inl (hw _ (List.mem_of_getElem? (i := 20) rfl))) (by decide) (t := .int) (t' := .int) (by decide) (by decide)))
  exact w_retA X43 hx hret rfl hlk (hb hby d9_333) (by decide) (by decide) (by rw [e43]; exact ⟨b29, rfl, N43, KP43, sz_b29, f45, f46, f47, f48, F43, f50, f53⟩)
theorem d2_0 : decode prog_5_method_1_code 0 = .ok (.aload_n 0, 1) := by decide +kernel
theorem d2_1 : decode prog_5_method_1_code 1 = .ok (.aload_n 1, 1) := by decide +kernel
theorem d2_2 : decode prog_5_method_1_code 2 = .ok (.iconst 0, 1) := by decide +kernel
theorem d2_3 : decode prog_5_method_1_code 3 = .ok (.aload_n 1, 1) := by decide +kernel
theorem d2_4 : decode prog_5_method_1_code 4 = .ok (.arraylength, 1) := by decide +kernel
theorem d2_5 : decode prog_5_method_1_code 5 = .ok (.invokespecial 1, 3) := by decide +kernel
theorem d2_8 : decode prog_5_method_1_code 8 = .ok (.return_, 1) := by decide +kernel
theorem ef_2 (m : MethodId) (ob : Addr) (x1 : Addr) : entryFrame m #[(.ref ob), (.ref x1)] 2 = mkF m 0 #[.val (.ref ob), .val (.ref x1)] [] := by first | (simp [entryFrame, mkF, argsToLocals, Value.category]; done) | rfl
set_option maxRecDepth 65536 in
set_option maxHeartbeats 40000000 in
theorem rm2 (l : Launch) (Z : State) (a0 : Array Value) (hw : ∀ d ∈ tables_1, d.before a0 Z = true) (ob : Addr) (x1 : Addr) (h0 : Heap) (n0 : Nat) (Z0 : n0 ≤ h0.size) (E_ob : Exa Z h0 ob "com/example/inwrap/inwrap/DerReader") (g_ob : n0 ≤ ob) (F_input : Fld Z h0 ob "com/example/inwrap/inwrap/DerReader" "input" "[B" .null) (F_position : Fld Z h0 ob "com/example/inwrap/inwrap/DerReader" "position" "I" (.int (0 : Int32))) (F_end : Fld Z h0 ob "com/example/inwrap/inwrap/DerReader" "end" "I" (.int (0 : Int32))) (y0 : Int32) (y1 : Int32) (y2 : Int32) (y3 : Int32) (y4 : Int32) (y5 : Int32) (V_x1 : AI Z h0 x1 .byte [y0, y1, y2, y3, y4, y5]) (nob_x1 : x1 ≠ ob) :
    Con l Z (⟨"com/example/inwrap/inwrap/DerReader", "<init>", "([B)V"⟩ : MethodName) prog_5_method_1_code 2 none ({ frames := 2, cells := 0, slots := 0, locals := 37 } : Room) #[(.ref ob), (.ref x1)] h0 (fun v h L => v = none ∧ Fr n0 L ∧ Keep h0 h [ob] ∧ Fld Z h ob "com/example/inwrap/inwrap/DerReader" "input" "[B" (.ref x1) ∧ Fld Z h ob "com/example/inwrap/inwrap/DerReader" "position" "I" (.int (0 : Int32)) ∧ Fld Z h ob "com/example/inwrap/inwrap/DerReader" "end" "I" (.int (6 : Int32))) := by
  refine Con.of (plainFor_of_name (by first | (simp [plainName, overriddenIn]; done) | decide +kernel)) ?_
  intro p e s m below meth c T X hx hZ hby hml hown hnm hret hlk e0
  rw [ef_2]
  have N0 := Fr.nil n0
  have KP0 := Keep.refl h0 [ob]
  show Go p e below s 0 0 (fun v h L => v = none ∧ Fr n0 L ∧ Keep h0 h [ob] ∧ Fld Z h ob "com/example/inwrap/inwrap/DerReader" "input" "[B" (.ref x1) ∧ Fld Z h ob "com/example/inwrap/inwrap/DerReader" "position" "I" (.int (0 : Int32)) ∧ Fld Z h ob "com/example/inwrap/inwrap/DerReader" "end" "I" (.int (6 : Int32))) T (mkF m 0 #[.val (.ref ob), .val (.ref x1)] [])
  refine w_aloadN X hx (hb hby d2_0) (pc' := 1) rfl rfl rfl ?_
  refine w_aloadN X hx (hb hby d2_1) (pc' := 2) rfl rfl rfl ?_
  refine w_iconst (v := 0) X hx (hb hby d2_2) (pc' := 3) rfl rfl ?_
  refine w_aloadN X hx (hb hby d2_3) (pc' := 4) rfl rfl rfl ?_
  refine w_alenI X hx hZ e0 V_x1 (n := (6 : Int32)) rfl (hb hby d2_4) (pc' := 5) rfl ?_
  refine w_callI (argsL := [(.ref x1), (.int (0 : Int32)), (.int (6 : Int32))]) (rest := []) (a := ob) X hx hZ hown e0 (rm3 l Z a0 hw ob x1 (0 : Int32) (6 : Int32) h0 n0 Z0 E_ob g_ob F_input F_position F_end) rfl (hw _ (List.mem_of_getElem? (i := 11) rfl)) (hw _ (List.mem_of_getElem? (i := 12) rfl)) (hw _ (List.mem_of_getElem? (i := 7) rfl)) (hw _ (List.mem_of_getElem? (i := 13) rfl)) (by decide) (by decide) (W := 0) (by decide) (by decide) (by decide) (by rw [hml]; rfl) (lenOf pd_2 rfl) (Nat.le_refl _) rfl (hb hby d2_5) (pc' := 8) rfl (fun T54 L54 v54 X54 hQ54 => ?_)
  obtain ⟨rfl, N54q, K54, F_input_54, F_position_54, F_end_54⟩ := hQ54
  have zn54 : n0 ≤ T54.heap.size := Nat.le_trans Z0 K54.1
  have KP54 := KP0.trans K54 (allS (Or.inl (by simp)) all0)
  have N54 := Fr.app N0 N54q
  have X54 : Stand p l e ({ frames := 2, cells := 0, slots := 0, locals := 37 } : Room) s m _ below meth c T54 _ 0 0 := X54
  show Go p e below s 0 0 (fun v h L => v = none ∧ Fr n0 L ∧ Keep h0 h [ob] ∧ Fld Z h ob "com/example/inwrap/inwrap/DerReader" "input" "[B" (.ref x1) ∧ Fld Z h ob "com/example/inwrap/inwrap/DerReader" "position" "I" (.int (0 : Int32)) ∧ Fld Z h ob "com/example/inwrap/inwrap/DerReader" "end" "I" (.int (6 : Int32))) T54 (mkF m 8 #[.val (.ref ob), .val (.ref x1)] [])
  exact w_retV X54 hx hret hlk (hb hby d2_8) (by decide) (by decide) (by exact ⟨rfl, N54, KP54, F_input_54, F_position_54, F_end_54⟩)
theorem own_nb (x : Int32) : nar .byte (x.toInt8.toInt32) = x.toInt8.toInt32 := by
  show (x.toInt8.toInt32).toInt8.toInt32 = _
  simp
theorem d1_0 : decode method_3_code 0 = .ok (.aload_n 0, 1) := by decide +kernel
theorem d1_1 : decode method_3_code 1 = .ok (.iconst 0, 1) := by decide +kernel
theorem d1_2 : decode method_3_code 2 = .ok (.iload_n 1, 1) := by decide +kernel
theorem d1_3 : decode method_3_code 3 = .ok (.i2b, 1) := by decide +kernel
theorem d1_4 : decode method_3_code 4 = .ok (.bastore, 1) := by decide +kernel
theorem d1_5 : decode method_3_code 5 = .ok (.aload_n 0, 1) := by decide +kernel
theorem d1_6 : decode method_3_code 6 = .ok (.iconst 1, 1) := by decide +kernel
theorem d1_7 : decode method_3_code 7 = .ok (.iload_n 2, 1) := by decide +kernel
theorem d1_8 : decode method_3_code 8 = .ok (.i2b, 1) := by decide +kernel
theorem d1_9 : decode method_3_code 9 = .ok (.bastore, 1) := by decide +kernel
theorem d1_10 : decode method_3_code 10 = .ok (.aload_n 0, 1) := by decide +kernel
theorem d1_11 : decode method_3_code 11 = .ok (.iconst 2, 1) := by decide +kernel
theorem d1_12 : decode method_3_code 12 = .ok (.iload_n 3, 1) := by decide +kernel
theorem d1_13 : decode method_3_code 13 = .ok (.i2b, 1) := by decide +kernel
theorem d1_14 : decode method_3_code 14 = .ok (.bastore, 1) := by decide +kernel
theorem d1_15 : decode method_3_code 15 = .ok (.aload_n 0, 1) := by decide +kernel
theorem d1_16 : decode method_3_code 16 = .ok (.iconst 3, 1) := by decide +kernel
theorem d1_17 : decode method_3_code 17 = .ok (.iload_n 3, 1) := by decide +kernel
theorem d1_18 : decode method_3_code 18 = .ok (.bipush 8, 2) := by decide +kernel
theorem d1_20 : decode method_3_code 20 = .ok (.iushr, 1) := by decide +kernel
theorem d1_21 : decode method_3_code 21 = .ok (.i2b, 1) := by decide +kernel
theorem d1_22 : decode method_3_code 22 = .ok (.bastore, 1) := by decide +kernel
theorem d1_23 : decode method_3_code 23 = .ok (.aload_n 0, 1) := by decide +kernel
theorem d1_24 : decode method_3_code 24 = .ok (.iconst 4, 1) := by decide +kernel
theorem d1_25 : decode method_3_code 25 = .ok (.iload_n 3, 1) := by decide +kernel
theorem d1_26 : decode method_3_code 26 = .ok (.bipush 16, 2) := by decide +kernel
theorem d1_28 : decode method_3_code 28 = .ok (.iushr, 1) := by decide +kernel
theorem d1_29 : decode method_3_code 29 = .ok (.i2b, 1) := by decide +kernel
theorem d1_30 : decode method_3_code 30 = .ok (.bastore, 1) := by decide +kernel
theorem d1_31 : decode method_3_code 31 = .ok (.aload_n 0, 1) := by decide +kernel
theorem d1_32 : decode method_3_code 32 = .ok (.iconst 5, 1) := by decide +kernel
theorem d1_33 : decode method_3_code 33 = .ok (.iload_n 3, 1) := by decide +kernel
theorem d1_34 : decode method_3_code 34 = .ok (.bipush 24, 2) := by decide +kernel
theorem d1_36 : decode method_3_code 36 = .ok (.iushr, 1) := by decide +kernel
theorem d1_37 : decode method_3_code 37 = .ok (.i2b, 1) := by decide +kernel
theorem d1_38 : decode method_3_code 38 = .ok (.bastore, 1) := by decide +kernel
theorem d1_39 : decode method_3_code 39 = .ok (.return_, 1) := by decide +kernel
theorem ef_1 (m : MethodId) (ar : Addr) (x1 : Int32) (x2 : Int32) (x3 : Int32) : entryFrame m #[(.ref ar), (.int x1), (.int x2), (.int x3)] 4 = mkF m 0 #[.val (.ref ar), .val (.int x1), .val (.int x2), .val (.int x3)] [] := by first | (simp [entryFrame, mkF, argsToLocals, Value.category]; done) | rfl
set_option maxRecDepth 65536 in
set_option maxHeartbeats 40000000 in
theorem rm1 (l : Launch) (Z : State) (a0 : Array Value) (hw : ∀ d ∈ tables_1, d.before a0 Z = true) (ar : Addr) (x1 : Int32) (x2 : Int32) (x3 : Int32) (h0 : Heap) (n0 : Nat) (Z0 : n0 ≤ h0.size) (z0 : Int32) (z1 : Int32) (z2 : Int32) (z3 : Int32) (z4 : Int32) (z5 : Int32) (g_ar : n0 ≤ ar) (V_ar : AI Z h0 ar .byte [z0, z1, z2, z3, z4, z5]) :
    Con l Z (⟨"com/example/inwrap/inwrap/DerReaderRemainingPinLaw", "fill", "([BIII)V"⟩ : MethodName) method_3_code 4 none ({ frames := 0, cells := 0, slots := 0, locals := 0 } : Room) #[(.ref ar), (.int x1), (.int x2), (.int x3)] h0 (fun v h L => v = none ∧ Fr n0 L ∧ Keep h0 h [ar] ∧ AI Z h ar .byte [x1.toInt8.toInt32, x2.toInt8.toInt32, x3.toInt8.toInt32, (jushr x3 (8 : Int32)).toInt8.toInt32, (jushr x3 (16 : Int32)).toInt8.toInt32, (jushr x3 (24 : Int32)).toInt8.toInt32]) := by
  refine Con.of (plainFor_of_name (by first | (simp [plainName, overriddenIn]; done) | decide +kernel)) ?_
  intro p e s m below meth c T X hx hZ hby hml hown hnm hret hlk e0
  rw [ef_1]
  have N0 := Fr.nil n0
  have KP0 := Keep.refl h0 [ar]
  show Go p e below s 0 0 (fun v h L => v = none ∧ Fr n0 L ∧ Keep h0 h [ar] ∧ AI Z h ar .byte [x1.toInt8.toInt32, x2.toInt8.toInt32, x3.toInt8.toInt32, (jushr x3 (8 : Int32)).toInt8.toInt32, (jushr x3 (16 : Int32)).toInt8.toInt32, (jushr x3 (24 : Int32)).toInt8.toInt32]) T (mkF m 0 #[.val (.ref ar), .val (.int x1), .val (.int x2), .val (.int x3)] [])
  refine w_aloadN X hx (hb hby d1_0) (pc' := 1) rfl rfl rfl ?_
  refine w_iconst (v := 0) X hx (hb hby d1_1) (pc' := 2) rfl rfl ?_
  refine w_iloadN X hx (hb hby d1_2) (pc' := 3) rfl rfl ?_
  refine w_i2b X hx (hb hby d1_3) (pc' := 4) rfl ?_
  refine w_bastore X hx hZ e0 V_ar (by decide) (by show _ < 6; decide) (hb hby d1_4) (pc' := 5) rfl (fun T55 h55 X55 e55 W55 V55 => ?_)
  have qv55 : (nar .byte x1.toInt8.toInt32) = x1.toInt8.toInt32 := own_nb _
  rw [qv55] at V55
  have V55 : AI Z h55 ar .byte [x1.toInt8.toInt32, z1, z2, z3, z4, z5] := V55
  have KP55 := KP0.wr W55 (Or.inl (by simp))
  have N55 := Fr.snoc X55 N0 g_ar
  have zn55 : n0 ≤ h55.size := by rw [W55.size]; exact Z0
  refine w_aloadN X55 hx (hb hby d1_5) (pc' := 6) rfl rfl rfl ?_
  refine w_iconst (v := 1) X55 hx (hb hby d1_6) (pc' := 7) rfl rfl ?_
  refine w_iloadN X55 hx (hb hby d1_7) (pc' := 8) rfl rfl ?_
  refine w_i2b X55 hx (hb hby d1_8) (pc' := 9) rfl ?_
  refine w_bastore X55 hx hZ e55 V55 (by decide) (by show _ < 6; decide) (hb hby d1_9) (pc' := 10) rfl (fun T56 h56 X56 e56 W56 V56 => ?_)
  have qv56 : (nar .byte x2.toInt8.toInt32) = x2.toInt8.toInt32 := own_nb _
  rw [qv56] at V56
  have V56 : AI Z h56 ar .byte [x1.toInt8.toInt32, x2.toInt8.toInt32, z2, z3, z4, z5] := V56
  have KP56 := KP55.wr W56 (Or.inl (by simp))
  have N56 := Fr.snoc X56 N55 g_ar
  have zn56 : n0 ≤ h56.size := by rw [W56.size]; exact zn55
  refine w_aloadN X56 hx (hb hby d1_10) (pc' := 11) rfl rfl rfl ?_
  refine w_iconst (v := 2) X56 hx (hb hby d1_11) (pc' := 12) rfl rfl ?_
  refine w_iloadN X56 hx (hb hby d1_12) (pc' := 13) rfl rfl ?_
  refine w_i2b X56 hx (hb hby d1_13) (pc' := 14) rfl ?_
  refine w_bastore X56 hx hZ e56 V56 (by decide) (by show _ < 6; decide) (hb hby d1_14) (pc' := 15) rfl (fun T57 h57 X57 e57 W57 V57 => ?_)
  have qv57 : (nar .byte x3.toInt8.toInt32) = x3.toInt8.toInt32 := own_nb _
  rw [qv57] at V57
  have V57 : AI Z h57 ar .byte [x1.toInt8.toInt32, x2.toInt8.toInt32, x3.toInt8.toInt32, z3, z4, z5] := V57
  have KP57 := KP56.wr W57 (Or.inl (by simp))
  have N57 := Fr.snoc X57 N56 g_ar
  have zn57 : n0 ≤ h57.size := by rw [W57.size]; exact zn56
  refine w_aloadN X57 hx (hb hby d1_15) (pc' := 16) rfl rfl rfl ?_
  refine w_iconst (v := 3) X57 hx (hb hby d1_16) (pc' := 17) rfl rfl ?_
  refine w_iloadN X57 hx (hb hby d1_17) (pc' := 18) rfl rfl ?_
  refine w_bipush (v := 8) X57 hx (hb hby d1_18) (pc' := 20) rfl rfl ?_
  refine w_iushr X57 hx (hb hby d1_20) (pc' := 21) rfl ?_
  refine w_i2b X57 hx (hb hby d1_21) (pc' := 22) rfl ?_
  refine w_bastore X57 hx hZ e57 V57 (by decide) (by show _ < 6; decide) (hb hby d1_22) (pc' := 23) rfl (fun T58 h58 X58 e58 W58 V58 => ?_)
  have qv58 : (nar .byte (jushr x3 (8 : Int32)).toInt8.toInt32) = (jushr x3 (8 : Int32)).toInt8.toInt32 := own_nb _
  rw [qv58] at V58
  have V58 : AI Z h58 ar .byte [x1.toInt8.toInt32, x2.toInt8.toInt32, x3.toInt8.toInt32, (jushr x3 (8 : Int32)).toInt8.toInt32, z4, z5] := V58
  have KP58 := KP57.wr W58 (Or.inl (by simp))
  have N58 := Fr.snoc X58 N57 g_ar
  have zn58 : n0 ≤ h58.size := by rw [W58.size]; exact zn57
  refine w_aloadN X58 hx (hb hby d1_23) (pc' := 24) rfl rfl rfl ?_
  refine w_iconst (v := 4) X58 hx (hb hby d1_24) (pc' := 25) rfl rfl ?_
  refine w_iloadN X58 hx (hb hby d1_25) (pc' := 26) rfl rfl ?_
  refine w_bipush (v := 16) X58 hx (hb hby d1_26) (pc' := 28) rfl rfl ?_
  refine w_iushr X58 hx (hb hby d1_28) (pc' := 29) rfl ?_
  refine w_i2b X58 hx (hb hby d1_29) (pc' := 30) rfl ?_
  refine w_bastore X58 hx hZ e58 V58 (by decide) (by show _ < 6; decide) (hb hby d1_30) (pc' := 31) rfl (fun T59 h59 X59 e59 W59 V59 => ?_)
  have qv59 : (nar .byte (jushr x3 (16 : Int32)).toInt8.toInt32) = (jushr x3 (16 : Int32)).toInt8.toInt32 := own_nb _
  rw [qv59] at V59
  have V59 : AI Z h59 ar .byte [x1.toInt8.toInt32, x2.toInt8.toInt32, x3.toInt8.toInt32, (jushr x3 (8 : Int32)).toInt8.toInt32, (jushr x3 (16 : Int32)).toInt8.toInt32, z5] := V59
  have KP59 := KP58.wr W59 (Or.inl (by simp))
  have N59 := Fr.snoc X59 N58 g_ar
  have zn59 : n0 ≤ h59.size := by rw [W59.size]; exact zn58
  refine w_aloadN X59 hx (hb hby d1_31) (pc' := 32) rfl rfl rfl ?_
  refine w_iconst (v := 5) X59 hx (hb hby d1_32) (pc' := 33) rfl rfl ?_
  refine w_iloadN X59 hx (hb hby d1_33) (pc' := 34) rfl rfl ?_
  refine w_bipush (v := 24) X59 hx (hb hby d1_34) (pc' := 36) rfl rfl ?_
  refine w_iushr X59 hx (hb hby d1_36) (pc' := 37) rfl ?_
  refine w_i2b X59 hx (hb hby d1_37) (pc' := 38) rfl ?_
  refine w_bastore X59 hx hZ e59 V59 (by decide) (by show _ < 6; decide) (hb hby d1_38) (pc' := 39) rfl (fun T60 h60 X60 e60 W60 V60 => ?_)
  have qv60 : (nar .byte (jushr x3 (24 : Int32)).toInt8.toInt32) = (jushr x3 (24 : Int32)).toInt8.toInt32 := own_nb _
  rw [qv60] at V60
  have V60 : AI Z h60 ar .byte [x1.toInt8.toInt32, x2.toInt8.toInt32, x3.toInt8.toInt32, (jushr x3 (8 : Int32)).toInt8.toInt32, (jushr x3 (16 : Int32)).toInt8.toInt32, (jushr x3 (24 : Int32)).toInt8.toInt32] := V60
  have KP60 := KP59.wr W60 (Or.inl (by simp))
  have N60 := Fr.snoc X60 N59 g_ar
  have zn60 : n0 ≤ h60.size := by rw [W60.size]; exact zn59
  exact w_retV X60 hx hret hlk (hb hby d1_39) (by decide) (by decide) (by rw [e60]; exact ⟨rfl, N60, KP60, V60⟩)
theorem d5_0 : decode prog_5_method_7_code 0 = .ok (.aload_n 0, 1) := by decide +kernel
theorem d5_1 : decode prog_5_method_7_code 1 = .ok (.getfield 12, 3) := by decide +kernel
theorem d5_4 : decode prog_5_method_7_code 4 = .ok (.aload_n 0, 1) := by decide +kernel
theorem d5_5 : decode prog_5_method_7_code 5 = .ok (.getfield 16, 3) := by decide +kernel
theorem d5_8 : decode prog_5_method_7_code 8 = .ok (.aload_n 0, 1) := by decide +kernel
theorem d5_9 : decode prog_5_method_7_code 9 = .ok (.getfield 20, 3) := by decide +kernel
theorem d5_12 : decode prog_5_method_7_code 12 = .ok (.invokestatic 62, 3) := by decide +kernel
theorem d5_15 : decode prog_5_method_7_code 15 = .ok (.areturn, 1) := by decide +kernel
theorem ef_5 (m : MethodId) (ob : Addr) : entryFrame m #[(.ref ob)] 1 = mkF m 0 #[.val (.ref ob)] [] := by first | (simp [entryFrame, mkF, argsToLocals, Value.category]; done) | rfl
set_option maxRecDepth 65536 in
set_option maxHeartbeats 40000000 in
theorem rm5 (l : Launch) (Z : State) (a0 : Array Value) (hw : ∀ d ∈ tables_1, d.before a0 Z = true) (ob : Addr) (h0 : Heap) (n0 : Nat) (Z0 : n0 ≤ h0.size) (ar : Addr) (vs : List Int32) (lo hi : Nat) (F_input : Fld Z h0 ob "com/example/inwrap/inwrap/DerReader" "input" "[B" (.ref ar)) (F_position : Fld Z h0 ob "com/example/inwrap/inwrap/DerReader" "position" "I" (.int (Int32.ofNat lo))) (F_end : Fld Z h0 ob "com/example/inwrap/inwrap/DerReader" "end" "I" (.int (Int32.ofNat hi))) (V_ar : AI Z h0 ar .byte vs) (hfit : ∀ x ∈ vs, fits .byte (.int x) = true) (hlh : lo ≤ hi) (hlv : lo ≤ vs.length) (h6 : hi - lo ≤ 6) (h7 : hi < 1000) :
    Con l Z (⟨"com/example/inwrap/inwrap/DerReader", "remaining", "()[B"⟩ : MethodName) prog_5_method_7_code 1 (some (.array .byte)) ({ frames := 3, cells := 1, slots := 6, locals := 70 } : Room) #[(.ref ob)] h0 (fun v h L => ∃ b : Addr, v = some (.ref b) ∧ Fr n0 L ∧ Keep h0 h [] ∧ h0.size ≤ b ∧ AI Z h b .byte (own_cpI vs lo (hi - lo))) := by
  refine Con.of (plainFor_of_name (by first | (simp [plainName, overriddenIn]; done) | decide +kernel)) ?_
  intro p e s m below meth c T X hx hZ hby hml hown hnm hret hlk e0
  rw [ef_5]
  have N0 := Fr.nil n0
  have KP0 := Keep.refl h0 []
  show Go p e below s 1 6 (fun v h L => ∃ b : Addr, v = some (.ref b) ∧ Fr n0 L ∧ Keep h0 h [] ∧ h0.size ≤ b ∧ AI Z h b .byte (own_cpI vs lo (hi - lo))) T (mkF m 0 #[.val (.ref ob)] [])
  refine w_aloadN X hx (hb hby d5_0) (pc' := 1) rfl rfl rfl ?_
  refine w_getF X hx hZ hown e0 F_input (hw _ (List.mem_of_getElem? (i := 17) rfl)) (hb hby d5_1) (pc' := 4) rfl (fun T61 X61 e61 => ?_)
  refine w_aloadN X61 hx (hb hby d5_4) (pc' := 5) rfl rfl rfl ?_
  refine w_getF X61 hx hZ hown e61 F_position (hw _ (List.mem_of_getElem? (i := 19) rfl)) (hb hby d5_5) (pc' := 8) rfl (fun T62 X62 e62 => ?_)
  refine w_aloadN X62 hx (hb hby d5_8) (pc' := 9) rfl rfl rfl ?_
  refine w_getF X62 hx hZ hown e62 F_end (hw _ (List.mem_of_getElem? (i := 21) rfl)) (hb hby d5_9) (pc' := 12) rfl (fun T63 X63 e63 => ?_)
  refine w_CopyOfRangeB X63 hx hZ (W := 0) (rest := []) (lo := lo) (hi := hi) hown e63 V_ar hfit (by omega) (by omega) (by omega) (own_tabCopyOfRangeB hZ hw) (hw _ (List.mem_of_getElem? (i := 28) rfl)) (hw _ (List.mem_of_getElem? (i := 29) rfl)) (hw _ (List.mem_of_getElem? (i := 30) rfl)) (by decide) (by decide) (by decide) (by show 0 + (hi - lo) ≤ 6; omega) (by rw [hml]; rfl) (Nat.le_refl _) (hb hby d5_12) (pc' := 15) rfl (fun T64 h64 b64 X64 e64 E64 q64 V64 => ?_)
  have g_b64 : n0 ≤ b64 := by rw [q64]; exact Z0
  have ne_ar_b64 : ar ≠ b64 := by rw [q64]; exact Nat.ne_of_lt V_ar.lt
  have sz_b64 : h0.size ≤ b64 := by rw [q64]; exact KP0.1
  have KP64 := KP0.ext E64
  have zn64 : n0 ≤ h64.size := Nat.le_trans Z0 E64.1
  exact w_retA X64 hx hret rfl hlk (hb hby d5_15) (by decide) (by omega) (by rw [e64]; exact ⟨b64, rfl, N0, KP64, sz_b64, V64⟩)
theorem own_fit6 {a b c d e f : Int32} (h0 : fits .byte (.int a) = true) (h1 : fits .byte (.int b) = true) (h2 : fits .byte (.int c) = true) (h3 : fits .byte (.int d) = true) (h4 : fits .byte (.int e) = true) (h5 : fits .byte (.int f) = true) : ∀ x ∈ [a, b, c, d, e, f], fits .byte (.int x) = true := by
  intro x hx
  simp only [List.mem_cons, List.not_mem_nil, or_false] at hx
  rcases hx with rfl | rfl | rfl | rfl | rfl | rfl <;> assumption
theorem d8_0 : decode method_5_code 0 = .ok (.iload_n 3, 1) := by decide +kernel
theorem d8_1 : decode method_5_code 1 = .ok (.aload_n 0, 1) := by decide +kernel
theorem d8_2 : decode method_5_code 2 = .ok (.arraylength, 1) := by decide +kernel
theorem d8_3 : decode method_5_code 3 = .ok (.if_icmp .ge 14, 3) := by decide +kernel
theorem d8_6 : decode method_5_code 6 = .ok (.aload_n 0, 1) := by decide +kernel
theorem d8_7 : decode method_5_code 7 = .ok (.iload_n 3, 1) := by decide +kernel
theorem d8_8 : decode method_5_code 8 = .ok (.baload, 1) := by decide +kernel
theorem d8_9 : decode method_5_code 9 = .ok (.aload_n 1, 1) := by decide +kernel
theorem d8_10 : decode method_5_code 10 = .ok (.iload_n 2, 1) := by decide +kernel
theorem d8_11 : decode method_5_code 11 = .ok (.iload_n 3, 1) := by decide +kernel
theorem d8_12 : decode method_5_code 12 = .ok (.iadd, 1) := by decide +kernel
theorem d8_13 : decode method_5_code 13 = .ok (.baload, 1) := by decide +kernel
theorem d8_14 : decode method_5_code 14 = .ok (.if_icmp .ne 7, 3) := by decide +kernel
theorem d8_17 : decode method_5_code 17 = .ok (.iconst 1, 1) := by decide +kernel
theorem d8_18 : decode method_5_code 18 = .ok (.goto 4, 3) := by decide +kernel
theorem d8_21 : decode method_5_code 21 = .ok (.iconst 0, 1) := by decide +kernel
theorem d8_22 : decode method_5_code 22 = .ok (.ireturn, 1) := by decide +kernel
def K8_0 (gs es : List Int32) (x2 : Int32) (x3 : Int32) : Int32 :=
  (if x3 < (gs.length.toInt32) then (if (gs.getD (x3).toNatClampNeg 0) = (es.getD ((x2 + x3)).toNatClampNeg 0) then (1 : Int32)
   else (0 : Int32))
  else (1 : Int32))
set_option maxRecDepth 65536 in
set_option maxHeartbeats 4000000 in
theorem bk8_0 {p : Program} {l : Launch} {e : Env} {s : State} {m : MethodId} {args : Array Value} {below : List Frame} {meth : Method} {c : Code} {T : State} {locs : List Loc} {Z : State} {a0 : Array Value} {h0 : Heap} {n0 : Nat} {ga ea : Addr} {gs es : List Int32} (X : Stand p l e ({ frames := 0, cells := 0, slots := 0, locals := 0 } : Room) s m args below meth c T locs 0 0) (hx : p.tables.exec = Jvm.exec) (hZ : Z.Warmed39 s.vm) (hw : ∀ d ∈ tables_1, d.before a0 Z = true) (hby : c.code = method_5_code) (hml : c.maxLocals = 4) (hown : s.vm.findClass "com/example/inwrap/inwrap/DerReaderRemainingPinLaw" = some m.cls) (hret : meth.sig.returnType = (some .boolean)) (hlk : meth.locks = false) (e0 : T.heap = h0) (N0 : Fr n0 locs) (V_ga : AI Z h0 ga .byte gs) (V_ea : AI Z h0 ea .byte es) (x2 : Int32) (x3 : Int32) (hok : x3 < gs.length.toInt32 → ¬ x3 < 0 ∧ x3.toNatClampNeg < gs.length ∧ ¬ (x2 + x3) < 0 ∧ (x2 + x3).toNatClampNeg < es.length) :
    Go p e below s 0 0 (QP (some (.int (K8_0 gs es x2 x3))) h0 n0) T (mkF m 0 #[.val (.ref ga), .val (.ref ea), .val (.int x2), .val (.int x3)] []) := by
  rw [K8_0]
  refine w_iloadN X hx (hb hby d8_0) (pc' := 1) rfl rfl ?_
  refine w_aloadN X hx (hb hby d8_1) (pc' := 2) rfl rfl rfl ?_
  refine w_alenI X hx hZ e0 V_ga (n := (gs.length.toInt32)) rfl (hb hby d8_2) (pc' := 3) rfl ?_
  refine w_icmp_ge X hx (hb hby d8_3) (pf := 6) (pt := 17) rfl (by decide) (by decide) (fun hc3 => ?_) (fun hc3 => ?_)
  · rw [if_neg hc3]
    refine w_iconst (v := 1) X hx (hb hby d8_17) (pc' := 18) rfl rfl ?_
    refine w_goto X hx (hb hby d8_18) (pc' := 22) (by decide) (by decide) ?_
    exact w_retZ X hx hret hlk (hb hby d8_22) (by decide) (by decide) ⟨rfl, N0, e0⟩
  · rw [if_pos hc3]
    refine w_aloadN X hx (hb hby d8_6) (pc' := 7) rfl rfl rfl ?_
    refine w_iloadN X hx (hb hby d8_7) (pc' := 8) rfl rfl ?_
    refine w_baload X hx hZ e0 V_ga (v := (gs.getD (x3).toNatClampNeg 0)) (hok hc3).1 (own_getD (hok hc3).2.1) (hb hby d8_8) (pc' := 9) rfl ?_
    refine w_aloadN X hx (hb hby d8_9) (pc' := 10) rfl rfl rfl ?_
    refine w_iloadN X hx (hb hby d8_10) (pc' := 11) rfl rfl ?_
    refine w_iloadN X hx (hb hby d8_11) (pc' := 12) rfl rfl ?_
    refine w_iadd X hx (hb hby d8_12) (pc' := 13) rfl ?_
    refine w_baload X hx hZ e0 V_ea (v := (es.getD ((x2 + x3)).toNatClampNeg 0)) (hok hc3).2.2.1 (own_getD (hok hc3).2.2.2) (hb hby d8_13) (pc' := 14) rfl ?_
    refine w_icmp_ne X hx (hb hby d8_14) (pf := 17) (pt := 21) rfl (by decide) (by decide) (fun hc14 => ?_) (fun hc14 => ?_)
    · rw [if_neg hc14]
      refine w_iconst (v := 0) X hx (hb hby d8_21) (pc' := 22) rfl rfl ?_
      exact w_retZ X hx hret hlk (hb hby d8_22) (by decide) (by decide) ⟨rfl, N0, e0⟩
    · rw [if_pos hc14]
      refine w_iconst (v := 1) X hx (hb hby d8_17) (pc' := 18) rfl rfl ?_
      refine w_goto X hx (hb hby d8_18) (pc' := 22) (by decide) (by decide) ?_
      exact w_retZ X hx hret hlk (hb hby d8_22) (by decide) (by decide) ⟨rfl, N0, e0⟩
theorem ef_8 (m : MethodId) (ga : Addr) (ea : Addr) (x2 : Int32) (x3 : Int32) : entryFrame m #[(.ref ga), (.ref ea), (.int x2), (.int x3)] 4 = mkF m 0 #[.val (.ref ga), .val (.ref ea), .val (.int x2), .val (.int x3)] [] := by first | (simp [entryFrame, mkF, argsToLocals, Value.category]; done) | rfl
theorem rm8 (l : Launch) (Z : State) (a0 : Array Value) (hw : ∀ d ∈ tables_1, d.before a0 Z = true) (ga : Addr) (ea : Addr) (x2 : Int32) (x3 : Int32) (h0 : Heap) (n0 : Nat) (gs es : List Int32) (V_ga : AI Z h0 ga .byte gs) (V_ea : AI Z h0 ea .byte es) (hok : x3 < gs.length.toInt32 → ¬ x3 < 0 ∧ x3.toNatClampNeg < gs.length ∧ ¬ (x2 + x3) < 0 ∧ (x2 + x3).toNatClampNeg < es.length) :
    Con l Z (⟨"com/example/inwrap/inwrap/DerReaderRemainingPinLaw", "at", "([B[BII)Z"⟩ : MethodName) method_5_code 4 (some .boolean) ({ frames := 0, cells := 0, slots := 0, locals := 0 } : Room) #[(.ref ga), (.ref ea), (.int x2), (.int x3)] h0 (QP (some (.int (K8_0 gs es x2 x3))) h0 n0) := by
  refine Con.of (plainFor_of_name (by first | (simp [plainName, overriddenIn]; done) | decide +kernel)) ?_
  intro p e s m below meth c T X hx hZ hby hml hown hnm hret hlk e0
  rw [ef_8]
  exact bk8_0 X hx hZ hw hby hml hown hret hlk e0 (Fr.nil n0) V_ga V_ea x2 x3 hok
theorem d7_0 : decode method_4_code 0 = .ok (.aload_n 0, 1) := by decide +kernel
theorem d7_1 : decode method_4_code 1 = .ok (.ifnull 11, 3) := by decide +kernel
theorem d7_4 : decode method_4_code 4 = .ok (.aload_n 0, 1) := by decide +kernel
theorem d7_5 : decode method_4_code 5 = .ok (.arraylength, 1) := by decide +kernel
theorem d7_6 : decode method_4_code 6 = .ok (.iload_n 3, 1) := by decide +kernel
theorem d7_7 : decode method_4_code 7 = .ok (.iload_n 2, 1) := by decide +kernel
theorem d7_8 : decode method_4_code 8 = .ok (.isub, 1) := by decide +kernel
theorem d7_9 : decode method_4_code 9 = .ok (.if_icmp .eq 5, 3) := by decide +kernel
theorem d7_12 : decode method_4_code 12 = .ok (.iconst 0, 1) := by decide +kernel
theorem d7_13 : decode method_4_code 13 = .ok (.ireturn, 1) := by decide +kernel
theorem d7_14 : decode method_4_code 14 = .ok (.iconst 1, 1) := by decide +kernel
theorem d7_15 : decode method_4_code 15 = .ok (.istore 4, 2) := by decide +kernel
theorem d7_17 : decode method_4_code 17 = .ok (.iload 4, 2) := by decide +kernel
theorem d7_19 : decode method_4_code 19 = .ok (.aload_n 0, 1) := by decide +kernel
theorem d7_20 : decode method_4_code 20 = .ok (.aload_n 1, 1) := by decide +kernel
theorem d7_21 : decode method_4_code 21 = .ok (.iload_n 2, 1) := by decide +kernel
theorem d7_22 : decode method_4_code 22 = .ok (.iconst 0, 1) := by decide +kernel
theorem d7_23 : decode method_4_code 23 = .ok (.invokestatic 30, 3) := by decide +kernel
theorem d7_26 : decode method_4_code 26 = .ok (.iand, 1) := by decide +kernel
theorem d7_27 : decode method_4_code 27 = .ok (.istore 4, 2) := by decide +kernel
theorem d7_29 : decode method_4_code 29 = .ok (.iload 4, 2) := by decide +kernel
theorem d7_31 : decode method_4_code 31 = .ok (.aload_n 0, 1) := by decide +kernel
theorem d7_32 : decode method_4_code 32 = .ok (.aload_n 1, 1) := by decide +kernel
theorem d7_33 : decode method_4_code 33 = .ok (.iload_n 2, 1) := by decide +kernel
theorem d7_34 : decode method_4_code 34 = .ok (.iconst 1, 1) := by decide +kernel
theorem d7_35 : decode method_4_code 35 = .ok (.invokestatic 30, 3) := by decide +kernel
theorem d7_38 : decode method_4_code 38 = .ok (.iand, 1) := by decide +kernel
theorem d7_39 : decode method_4_code 39 = .ok (.istore 4, 2) := by decide +kernel
theorem d7_41 : decode method_4_code 41 = .ok (.iload 4, 2) := by decide +kernel
theorem d7_43 : decode method_4_code 43 = .ok (.aload_n 0, 1) := by decide +kernel
theorem d7_44 : decode method_4_code 44 = .ok (.aload_n 1, 1) := by decide +kernel
theorem d7_45 : decode method_4_code 45 = .ok (.iload_n 2, 1) := by decide +kernel
theorem d7_46 : decode method_4_code 46 = .ok (.iconst 2, 1) := by decide +kernel
theorem d7_47 : decode method_4_code 47 = .ok (.invokestatic 30, 3) := by decide +kernel
theorem d7_50 : decode method_4_code 50 = .ok (.iand, 1) := by decide +kernel
theorem d7_51 : decode method_4_code 51 = .ok (.istore 4, 2) := by decide +kernel
theorem d7_53 : decode method_4_code 53 = .ok (.iload 4, 2) := by decide +kernel
theorem d7_55 : decode method_4_code 55 = .ok (.aload_n 0, 1) := by decide +kernel
theorem d7_56 : decode method_4_code 56 = .ok (.aload_n 1, 1) := by decide +kernel
theorem d7_57 : decode method_4_code 57 = .ok (.iload_n 2, 1) := by decide +kernel
theorem d7_58 : decode method_4_code 58 = .ok (.iconst 3, 1) := by decide +kernel
theorem d7_59 : decode method_4_code 59 = .ok (.invokestatic 30, 3) := by decide +kernel
theorem d7_62 : decode method_4_code 62 = .ok (.iand, 1) := by decide +kernel
theorem d7_63 : decode method_4_code 63 = .ok (.istore 4, 2) := by decide +kernel
theorem d7_65 : decode method_4_code 65 = .ok (.iload 4, 2) := by decide +kernel
theorem d7_67 : decode method_4_code 67 = .ok (.aload_n 0, 1) := by decide +kernel
theorem d7_68 : decode method_4_code 68 = .ok (.aload_n 1, 1) := by decide +kernel
theorem d7_69 : decode method_4_code 69 = .ok (.iload_n 2, 1) := by decide +kernel
theorem d7_70 : decode method_4_code 70 = .ok (.iconst 4, 1) := by decide +kernel
theorem d7_71 : decode method_4_code 71 = .ok (.invokestatic 30, 3) := by decide +kernel
theorem d7_74 : decode method_4_code 74 = .ok (.iand, 1) := by decide +kernel
theorem d7_75 : decode method_4_code 75 = .ok (.istore 4, 2) := by decide +kernel
theorem d7_77 : decode method_4_code 77 = .ok (.iload 4, 2) := by decide +kernel
theorem d7_79 : decode method_4_code 79 = .ok (.aload_n 0, 1) := by decide +kernel
theorem d7_80 : decode method_4_code 80 = .ok (.aload_n 1, 1) := by decide +kernel
theorem d7_81 : decode method_4_code 81 = .ok (.iload_n 2, 1) := by decide +kernel
theorem d7_82 : decode method_4_code 82 = .ok (.iconst 5, 1) := by decide +kernel
theorem d7_83 : decode method_4_code 83 = .ok (.invokestatic 30, 3) := by decide +kernel
theorem d7_86 : decode method_4_code 86 = .ok (.iand, 1) := by decide +kernel
theorem d7_87 : decode method_4_code 87 = .ok (.istore 4, 2) := by decide +kernel
theorem d7_89 : decode method_4_code 89 = .ok (.iload 4, 2) := by decide +kernel
theorem d7_91 : decode method_4_code 91 = .ok (.ireturn, 1) := by decide +kernel
def K7_0 (gs es : List Int32) (x2 : Int32) (x3 : Int32) : Int32 :=
  (if (gs.length.toInt32) = (x3 - x2) then (nar .boolean (((((((1 : Int32) &&& (K8_0 gs es x2 (0 : Int32))) &&& (K8_0 gs es x2 (1 : Int32))) &&& (K8_0 gs es x2 (2 : Int32))) &&& (K8_0 gs es x2 (3 : Int32))) &&& (K8_0 gs es x2 (4 : Int32))) &&& (K8_0 gs es x2 (5 : Int32))))
  else (0 : Int32))
set_option maxRecDepth 65536 in
set_option maxHeartbeats 4000000 in
theorem bk7_0 {p : Program} {l : Launch} {e : Env} {s : State} {m : MethodId} {args : Array Value} {below : List Frame} {meth : Method} {c : Code} {T : State} {locs : List Loc} {Z : State} {a0 : Array Value} {h0 : Heap} {n0 : Nat} {ga ea : Addr} {gs es : List Int32} (X : Stand p l e ({ frames := 1, cells := 0, slots := 0, locals := 21 } : Room) s m args below meth c T locs 0 0) (hx : p.tables.exec = Jvm.exec) (hZ : Z.Warmed39 s.vm) (hw : ∀ d ∈ tables_1, d.before a0 Z = true) (hby : c.code = method_4_code) (hml : c.maxLocals = 5) (hown : s.vm.findClass "com/example/inwrap/inwrap/DerReaderRemainingPinLaw" = some m.cls) (hret : meth.sig.returnType = (some .boolean)) (hlk : meth.locks = false) (e0 : T.heap = h0) (N0 : Fr n0 locs) (V_ga : AI Z h0 ga .byte gs) (V_ea : AI Z h0 ea .byte es) (x2 : Int32) (x3 : Int32) (hok : ∀ x3 : Int32, 0 ≤ x3.toInt → x3.toInt < 6 → x3 < gs.length.toInt32 → ¬ x3 < 0 ∧ x3.toNatClampNeg < gs.length ∧ ¬ (x2 + x3) < 0 ∧ (x2 + x3).toNatClampNeg < es.length) :
    Go p e below s 0 0 (QP (some (.int (K7_0 gs es x2 x3))) h0 n0) T (mkF m 0 #[.val (.ref ga), .val (.ref ea), .val (.int x2), .val (.int x3), .unset] []) := by
  rw [K7_0]
  refine w_aloadN X hx (hb hby d7_0) (pc' := 1) rfl rfl rfl ?_
  refine w_ifnullNo X hx (hb hby d7_1) (pc' := 4) rfl ?_
  refine w_aloadN X hx (hb hby d7_4) (pc' := 5) rfl rfl rfl ?_
  refine w_alenI X hx hZ e0 V_ga (n := (gs.length.toInt32)) rfl (hb hby d7_5) (pc' := 6) rfl ?_
  refine w_iloadN X hx (hb hby d7_6) (pc' := 7) rfl rfl ?_
  refine w_iloadN X hx (hb hby d7_7) (pc' := 8) rfl rfl ?_
  refine w_isub X hx (hb hby d7_8) (pc' := 9) rfl ?_
  refine w_icmp_eq X hx (hb hby d7_9) (pf := 12) (pt := 14) rfl (by decide) (by decide) (fun hc9 => ?_) (fun hc9 => ?_)
  · rw [if_pos hc9]
    refine w_iconst (v := 1) X hx (hb hby d7_14) (pc' := 15) rfl rfl ?_
    refine w_istore (Ls' := #[.val (.ref ga), .val (.ref ea), .val (.int x2), .val (.int x3), .val (.int (1 : Int32))]) X hx (hb hby d7_15) (pc' := 17) rfl rfl ?_
    refine w_iload X hx (hb hby d7_17) (pc' := 19) rfl rfl ?_
    refine w_aloadN X hx (hb hby d7_19) (pc' := 20) rfl rfl rfl ?_
    refine w_aloadN X hx (hb hby d7_20) (pc' := 21) rfl rfl rfl ?_
    refine w_iloadN X hx (hb hby d7_21) (pc' := 22) rfl rfl ?_
    refine w_iconst (v := 0) X hx (hb hby d7_22) (pc' := 23) rfl rfl ?_
    refine w_callS (argsL := [(.ref ga), (.ref ea), (.int x2), (.int (0 : Int32))]) (rest := [(.int (1 : Int32))]) X hx hZ hown e0 (rm8 l Z a0 hw ga ea x2 (0 : Int32) h0 n0 gs es V_ga V_ea (hok _ (by decide) (by decide))) (hw _ (List.mem_of_getElem? (i := 44) rfl)) (hw _ (List.mem_of_getElem? (i := 45) rfl)) (hw _ (List.mem_of_getElem? (i := 3) rfl)) (hw _ (List.mem_of_getElem? (i := 46) rfl)) (by decide) (by decide) (W := 1) (by decide) (by decide) (by decide) (by rw [hml]; rfl) (lenOf pd_3 rfl) (Nat.le_refl _) rfl (hb hby d7_23) (pc' := 26) rfl (fun T65 L65 v65 X65 hQ65 => ?_)
    obtain ⟨rfl, N65q, e65⟩ := hQ65
    have N65 := Fr.app N0 N65q
    have X65 : Stand p l e ({ frames := 1, cells := 0, slots := 0, locals := 21 } : Room) s m _ below meth c T65 _ 0 0 := X65
    show Go p e below s 0 0 _ T65 (mkF m 26 #[.val (.ref ga), .val (.ref ea), .val (.int x2), .val (.int x3), .val (.int (1 : Int32))] [(.int (K8_0 gs es x2 (0 : Int32))), (.int (1 : Int32))])
    refine w_iand X65 hx (hb hby d7_26) (pc' := 27) rfl ?_
    refine w_istore (Ls' := #[.val (.ref ga), .val (.ref ea), .val (.int x2), .val (.int x3), .val (.int ((1 : Int32) &&& (K8_0 gs es x2 (0 : Int32))))]) X65 hx (hb hby d7_27) (pc' := 29) rfl rfl ?_
    refine w_iload X65 hx (hb hby d7_29) (pc' := 31) rfl rfl ?_
    refine w_aloadN X65 hx (hb hby d7_31) (pc' := 32) rfl rfl rfl ?_
    refine w_aloadN X65 hx (hb hby d7_32) (pc' := 33) rfl rfl rfl ?_
    refine w_iloadN X65 hx (hb hby d7_33) (pc' := 34) rfl rfl ?_
    refine w_iconst (v := 1) X65 hx (hb hby d7_34) (pc' := 35) rfl rfl ?_
    refine w_callS (argsL := [(.ref ga), (.ref ea), (.int x2), (.int (1 : Int32))]) (rest := [(.int ((1 : Int32) &&& (K8_0 gs es x2 (0 : Int32))))]) X65 hx hZ hown e65 (rm8 l Z a0 hw ga ea x2 (1 : Int32) h0 n0 gs es V_ga V_ea (hok _ (by decide) (by decide))) (hw _ (List.mem_of_getElem? (i := 44) rfl)) (hw _ (List.mem_of_getElem? (i := 45) rfl)) (hw _ (List.mem_of_getElem? (i := 3) rfl)) (hw _ (List.mem_of_getElem? (i := 46) rfl)) (by decide) (by decide) (W := 1) (by decide) (by decide) (by decide) (by rw [hml]; rfl) (lenOf pd_3 rfl) (Nat.le_refl _) rfl (hb hby d7_35) (pc' := 38) rfl (fun T66 L66 v66 X66 hQ66 => ?_)
    obtain ⟨rfl, N66q, e66⟩ := hQ66
    have N66 := Fr.app N65 N66q
    have X66 : Stand p l e ({ frames := 1, cells := 0, slots := 0, locals := 21 } : Room) s m _ below meth c T66 _ 0 0 := X66
    show Go p e below s 0 0 _ T66 (mkF m 38 #[.val (.ref ga), .val (.ref ea), .val (.int x2), .val (.int x3), .val (.int ((1 : Int32) &&& (K8_0 gs es x2 (0 : Int32))))] [(.int (K8_0 gs es x2 (1 : Int32))), (.int ((1 : Int32) &&& (K8_0 gs es x2 (0 : Int32))))])
    refine w_iand X66 hx (hb hby d7_38) (pc' := 39) rfl ?_
    refine w_istore (Ls' := #[.val (.ref ga), .val (.ref ea), .val (.int x2), .val (.int x3), .val (.int (((1 : Int32) &&& (K8_0 gs es x2 (0 : Int32))) &&& (K8_0 gs es x2 (1 : Int32))))]) X66 hx (hb hby d7_39) (pc' := 41) rfl rfl ?_
    refine w_iload X66 hx (hb hby d7_41) (pc' := 43) rfl rfl ?_
    refine w_aloadN X66 hx (hb hby d7_43) (pc' := 44) rfl rfl rfl ?_
    refine w_aloadN X66 hx (hb hby d7_44) (pc' := 45) rfl rfl rfl ?_
    refine w_iloadN X66 hx (hb hby d7_45) (pc' := 46) rfl rfl ?_
    refine w_iconst (v := 2) X66 hx (hb hby d7_46) (pc' := 47) rfl rfl ?_
    refine w_callS (argsL := [(.ref ga), (.ref ea), (.int x2), (.int (2 : Int32))]) (rest := [(.int (((1 : Int32) &&& (K8_0 gs es x2 (0 : Int32))) &&& (K8_0 gs es x2 (1 : Int32))))]) X66 hx hZ hown e66 (rm8 l Z a0 hw ga ea x2 (2 : Int32) h0 n0 gs es V_ga V_ea (hok _ (by decide) (by decide))) (hw _ (List.mem_of_getElem? (i := 44) rfl)) (hw _ (List.mem_of_getElem? (i := 45) rfl)) (hw _ (List.mem_of_getElem? (i := 3) rfl)) (hw _ (List.mem_of_getElem? (i := 46) rfl)) (by decide) (by decide) (W := 1) (by decide) (by decide) (by decide) (by rw [hml]; rfl) (lenOf pd_3 rfl) (Nat.le_refl _) rfl (hb hby d7_47) (pc' := 50) rfl (fun T67 L67 v67 X67 hQ67 => ?_)
    obtain ⟨rfl, N67q, e67⟩ := hQ67
    have N67 := Fr.app N66 N67q
    have X67 : Stand p l e ({ frames := 1, cells := 0, slots := 0, locals := 21 } : Room) s m _ below meth c T67 _ 0 0 := X67
    show Go p e below s 0 0 _ T67 (mkF m 50 #[.val (.ref ga), .val (.ref ea), .val (.int x2), .val (.int x3), .val (.int (((1 : Int32) &&& (K8_0 gs es x2 (0 : Int32))) &&& (K8_0 gs es x2 (1 : Int32))))] [(.int (K8_0 gs es x2 (2 : Int32))), (.int (((1 : Int32) &&& (K8_0 gs es x2 (0 : Int32))) &&& (K8_0 gs es x2 (1 : Int32))))])
    refine w_iand X67 hx (hb hby d7_50) (pc' := 51) rfl ?_
    refine w_istore (Ls' := #[.val (.ref ga), .val (.ref ea), .val (.int x2), .val (.int x3), .val (.int ((((1 : Int32) &&& (K8_0 gs es x2 (0 : Int32))) &&& (K8_0 gs es x2 (1 : Int32))) &&& (K8_0 gs es x2 (2 : Int32))))]) X67 hx (hb hby d7_51) (pc' := 53) rfl rfl ?_
    refine w_iload X67 hx (hb hby d7_53) (pc' := 55) rfl rfl ?_
    refine w_aloadN X67 hx (hb hby d7_55) (pc' := 56) rfl rfl rfl ?_
    refine w_aloadN X67 hx (hb hby d7_56) (pc' := 57) rfl rfl rfl ?_
    refine w_iloadN X67 hx (hb hby d7_57) (pc' := 58) rfl rfl ?_
    refine w_iconst (v := 3) X67 hx (hb hby d7_58) (pc' := 59) rfl rfl ?_
    refine w_callS (argsL := [(.ref ga), (.ref ea), (.int x2), (.int (3 : Int32))]) (rest := [(.int ((((1 : Int32) &&& (K8_0 gs es x2 (0 : Int32))) &&& (K8_0 gs es x2 (1 : Int32))) &&& (K8_0 gs es x2 (2 : Int32))))]) X67 hx hZ hown e67 (rm8 l Z a0 hw ga ea x2 (3 : Int32) h0 n0 gs es V_ga V_ea (hok _ (by decide) (by decide))) (hw _ (List.mem_of_getElem? (i := 44) rfl)) (hw _ (List.mem_of_getElem? (i := 45) rfl)) (hw _ (List.mem_of_getElem? (i := 3) rfl)) (hw _ (List.mem_of_getElem? (i := 46) rfl)) (by decide) (by decide) (W := 1) (by decide) (by decide) (by decide) (by rw [hml]; rfl) (lenOf pd_3 rfl) (Nat.le_refl _) rfl (hb hby d7_59) (pc' := 62) rfl (fun T68 L68 v68 X68 hQ68 => ?_)
    obtain ⟨rfl, N68q, e68⟩ := hQ68
    have N68 := Fr.app N67 N68q
    have X68 : Stand p l e ({ frames := 1, cells := 0, slots := 0, locals := 21 } : Room) s m _ below meth c T68 _ 0 0 := X68
    show Go p e below s 0 0 _ T68 (mkF m 62 #[.val (.ref ga), .val (.ref ea), .val (.int x2), .val (.int x3), .val (.int ((((1 : Int32) &&& (K8_0 gs es x2 (0 : Int32))) &&& (K8_0 gs es x2 (1 : Int32))) &&& (K8_0 gs es x2 (2 : Int32))))] [(.int (K8_0 gs es x2 (3 : Int32))), (.int ((((1 : Int32) &&& (K8_0 gs es x2 (0 : Int32))) &&& (K8_0 gs es x2 (1 : Int32))) &&& (K8_0 gs es x2 (2 : Int32))))])
    refine w_iand X68 hx (hb hby d7_62) (pc' := 63) rfl ?_
    refine w_istore (Ls' := #[.val (.ref ga), .val (.ref ea), .val (.int x2), .val (.int x3), .val (.int (((((1 : Int32) &&& (K8_0 gs es x2 (0 : Int32))) &&& (K8_0 gs es x2 (1 : Int32))) &&& (K8_0 gs es x2 (2 : Int32))) &&& (K8_0 gs es x2 (3 : Int32))))]) X68 hx (hb hby d7_63) (pc' := 65) rfl rfl ?_
    refine w_iload X68 hx (hb hby d7_65) (pc' := 67) rfl rfl ?_
    refine w_aloadN X68 hx (hb hby d7_67) (pc' := 68) rfl rfl rfl ?_
    refine w_aloadN X68 hx (hb hby d7_68) (pc' := 69) rfl rfl rfl ?_
    refine w_iloadN X68 hx (hb hby d7_69) (pc' := 70) rfl rfl ?_
    refine w_iconst (v := 4) X68 hx (hb hby d7_70) (pc' := 71) rfl rfl ?_
    refine w_callS (argsL := [(.ref ga), (.ref ea), (.int x2), (.int (4 : Int32))]) (rest := [(.int (((((1 : Int32) &&& (K8_0 gs es x2 (0 : Int32))) &&& (K8_0 gs es x2 (1 : Int32))) &&& (K8_0 gs es x2 (2 : Int32))) &&& (K8_0 gs es x2 (3 : Int32))))]) X68 hx hZ hown e68 (rm8 l Z a0 hw ga ea x2 (4 : Int32) h0 n0 gs es V_ga V_ea (hok _ (by decide) (by decide))) (hw _ (List.mem_of_getElem? (i := 44) rfl)) (hw _ (List.mem_of_getElem? (i := 45) rfl)) (hw _ (List.mem_of_getElem? (i := 3) rfl)) (hw _ (List.mem_of_getElem? (i := 46) rfl)) (by decide) (by decide) (W := 1) (by decide) (by decide) (by decide) (by rw [hml]; rfl) (lenOf pd_3 rfl) (Nat.le_refl _) rfl (hb hby d7_71) (pc' := 74) rfl (fun T69 L69 v69 X69 hQ69 => ?_)
    obtain ⟨rfl, N69q, e69⟩ := hQ69
    have N69 := Fr.app N68 N69q
    have X69 : Stand p l e ({ frames := 1, cells := 0, slots := 0, locals := 21 } : Room) s m _ below meth c T69 _ 0 0 := X69
    show Go p e below s 0 0 _ T69 (mkF m 74 #[.val (.ref ga), .val (.ref ea), .val (.int x2), .val (.int x3), .val (.int (((((1 : Int32) &&& (K8_0 gs es x2 (0 : Int32))) &&& (K8_0 gs es x2 (1 : Int32))) &&& (K8_0 gs es x2 (2 : Int32))) &&& (K8_0 gs es x2 (3 : Int32))))] [(.int (K8_0 gs es x2 (4 : Int32))), (.int (((((1 : Int32) &&& (K8_0 gs es x2 (0 : Int32))) &&& (K8_0 gs es x2 (1 : Int32))) &&& (K8_0 gs es x2 (2 : Int32))) &&& (K8_0 gs es x2 (3 : Int32))))])
    refine w_iand X69 hx (hb hby d7_74) (pc' := 75) rfl ?_
    refine w_istore (Ls' := #[.val (.ref ga), .val (.ref ea), .val (.int x2), .val (.int x3), .val (.int ((((((1 : Int32) &&& (K8_0 gs es x2 (0 : Int32))) &&& (K8_0 gs es x2 (1 : Int32))) &&& (K8_0 gs es x2 (2 : Int32))) &&& (K8_0 gs es x2 (3 : Int32))) &&& (K8_0 gs es x2 (4 : Int32))))]) X69 hx (hb hby d7_75) (pc' := 77) rfl rfl ?_
    refine w_iload X69 hx (hb hby d7_77) (pc' := 79) rfl rfl ?_
    refine w_aloadN X69 hx (hb hby d7_79) (pc' := 80) rfl rfl rfl ?_
    refine w_aloadN X69 hx (hb hby d7_80) (pc' := 81) rfl rfl rfl ?_
    refine w_iloadN X69 hx (hb hby d7_81) (pc' := 82) rfl rfl ?_
    refine w_iconst (v := 5) X69 hx (hb hby d7_82) (pc' := 83) rfl rfl ?_
    refine w_callS (argsL := [(.ref ga), (.ref ea), (.int x2), (.int (5 : Int32))]) (rest := [(.int ((((((1 : Int32) &&& (K8_0 gs es x2 (0 : Int32))) &&& (K8_0 gs es x2 (1 : Int32))) &&& (K8_0 gs es x2 (2 : Int32))) &&& (K8_0 gs es x2 (3 : Int32))) &&& (K8_0 gs es x2 (4 : Int32))))]) X69 hx hZ hown e69 (rm8 l Z a0 hw ga ea x2 (5 : Int32) h0 n0 gs es V_ga V_ea (hok _ (by decide) (by decide))) (hw _ (List.mem_of_getElem? (i := 44) rfl)) (hw _ (List.mem_of_getElem? (i := 45) rfl)) (hw _ (List.mem_of_getElem? (i := 3) rfl)) (hw _ (List.mem_of_getElem? (i := 46) rfl)) (by decide) (by decide) (W := 1) (by decide) (by decide) (by decide) (by rw [hml]; rfl) (lenOf pd_3 rfl) (Nat.le_refl _) rfl (hb hby d7_83) (pc' := 86) rfl (fun T70 L70 v70 X70 hQ70 => ?_)
    obtain ⟨rfl, N70q, e70⟩ := hQ70
    have N70 := Fr.app N69 N70q
    have X70 : Stand p l e ({ frames := 1, cells := 0, slots := 0, locals := 21 } : Room) s m _ below meth c T70 _ 0 0 := X70
    show Go p e below s 0 0 _ T70 (mkF m 86 #[.val (.ref ga), .val (.ref ea), .val (.int x2), .val (.int x3), .val (.int ((((((1 : Int32) &&& (K8_0 gs es x2 (0 : Int32))) &&& (K8_0 gs es x2 (1 : Int32))) &&& (K8_0 gs es x2 (2 : Int32))) &&& (K8_0 gs es x2 (3 : Int32))) &&& (K8_0 gs es x2 (4 : Int32))))] [(.int (K8_0 gs es x2 (5 : Int32))), (.int ((((((1 : Int32) &&& (K8_0 gs es x2 (0 : Int32))) &&& (K8_0 gs es x2 (1 : Int32))) &&& (K8_0 gs es x2 (2 : Int32))) &&& (K8_0 gs es x2 (3 : Int32))) &&& (K8_0 gs es x2 (4 : Int32))))])
    refine w_iand X70 hx (hb hby d7_86) (pc' := 87) rfl ?_
    refine w_istore (Ls' := #[.val (.ref ga), .val (.ref ea), .val (.int x2), .val (.int x3), .val (.int (((((((1 : Int32) &&& (K8_0 gs es x2 (0 : Int32))) &&& (K8_0 gs es x2 (1 : Int32))) &&& (K8_0 gs es x2 (2 : Int32))) &&& (K8_0 gs es x2 (3 : Int32))) &&& (K8_0 gs es x2 (4 : Int32))) &&& (K8_0 gs es x2 (5 : Int32))))]) X70 hx (hb hby d7_87) (pc' := 89) rfl rfl ?_
    refine w_iload X70 hx (hb hby d7_89) (pc' := 91) rfl rfl ?_
    exact w_retZ X70 hx hret hlk (hb hby d7_91) (by decide) (by decide) ⟨rfl, N70, e70⟩
  · rw [if_neg hc9]
    refine w_iconst (v := 0) X hx (hb hby d7_12) (pc' := 13) rfl rfl ?_
    exact w_retZ X hx hret hlk (hb hby d7_13) (by decide) (by decide) ⟨rfl, N0, e0⟩
theorem ef_7 (m : MethodId) (ga : Addr) (ea : Addr) (x2 : Int32) (x3 : Int32) : entryFrame m #[(.ref ga), (.ref ea), (.int x2), (.int x3)] 5 = mkF m 0 #[.val (.ref ga), .val (.ref ea), .val (.int x2), .val (.int x3), .unset] [] := by first | (simp [entryFrame, mkF, argsToLocals, Value.category]; done) | rfl
theorem rm7 (l : Launch) (Z : State) (a0 : Array Value) (hw : ∀ d ∈ tables_1, d.before a0 Z = true) (ga : Addr) (ea : Addr) (x2 : Int32) (x3 : Int32) (h0 : Heap) (n0 : Nat) (gs es : List Int32) (V_ga : AI Z h0 ga .byte gs) (V_ea : AI Z h0 ea .byte es) (hok : ∀ x3 : Int32, 0 ≤ x3.toInt → x3.toInt < 6 → x3 < gs.length.toInt32 → ¬ x3 < 0 ∧ x3.toNatClampNeg < gs.length ∧ ¬ (x2 + x3) < 0 ∧ (x2 + x3).toNatClampNeg < es.length) :
    Con l Z (⟨"com/example/inwrap/inwrap/DerReaderRemainingPinLaw", "slice", "([B[BII)Z"⟩ : MethodName) method_4_code 5 (some .boolean) ({ frames := 1, cells := 0, slots := 0, locals := 21 } : Room) #[(.ref ga), (.ref ea), (.int x2), (.int x3)] h0 (QP (some (.int (K7_0 gs es x2 x3))) h0 n0) := by
  refine Con.of (plainFor_of_name (by first | (simp [plainName, overriddenIn]; done) | decide +kernel)) ?_
  intro p e s m below meth c T X hx hZ hby hml hown hnm hret hlk e0
  rw [ef_7]
  exact bk7_0 X hx hZ hw hby hml hown hret hlk e0 (Fr.nil n0) V_ga V_ea x2 x3 hok
theorem own_i {n : Nat} (h : n < 2147483648) : (n.toInt32).toInt = n := len_toInt h
theorem own_nat {n : Nat} (h : n < 2147483648) : n.toInt32.toNatClampNeg = n := by
  show n.toInt32.toInt.toNat = n
  rw [own_i h]; rfl
theorem own_nneg {n : Nat} (h : n < 2147483648) : ¬ n.toInt32 < 0 := by
  rw [Int32.lt_iff_toInt_lt, own_i h, own_zero]; omega
theorem own_ilt {a b : Nat} (ha : a < 2147483648) (hb : b < 2147483648) : (a.toInt32 < b.toInt32) ↔ a < b := by
  rw [Int32.lt_iff_toInt_lt, own_i ha, own_i hb]; omega
theorem own_ieq {a b : Nat} (ha : a < 2147483648) (hb : b < 2147483648) : (a.toInt32 = b.toInt32) ↔ a = b := by
  rw [← Int32.toInt_inj, own_i ha, own_i hb]; omega
theorem own_iinc {n : Nat} (h : n + 1 < 2147483648) : n.toInt32 + 1 = (n + 1).toInt32 := by
  apply own_toInt
  rw [Jvm.Kit.i32_add (by rw [own_i (by omega), own_one]; omega) (by rw [own_i (by omega), own_one]; omega), own_i (by omega), own_i h, own_one]
  omega
theorem own_idec {n : Nat} (h : n + 1 < 2147483648) : (n + 1).toInt32 - 1 = n.toInt32 := by
  apply own_toInt
  rw [Jvm.Kit.i32_sub (by rw [own_i h, own_one]; omega) (by rw [own_i h, own_one]; omega), own_i h, own_i (by omega), own_one]
  omega
theorem own_and254 : ∀ n, n < 256 → (n &&& 254) &&& 31 ≠ 31 ∧ (n &&& 254) < 256 := by decide +kernel
theorem own_sm {y : Int32} (h : y.toBitVec.toNat < 2147483648) : y.toInt = (y.toBitVec.toNat : Int) := by
  show y.toBitVec.toInt = _
  rw [BitVec.toInt_eq_toNat_cond, if_pos (by omega)]
theorem own_nn {y : Int32} (h : 0 ≤ y.toInt) : y.toBitVec.toNat < 2147483648 := by
  have h1 : y.toInt = y.toBitVec.toInt := rfl
  rw [h1, BitVec.toInt_eq_toNat_cond] at h
  have := y.toBitVec.isLt
  split at h <;> omega
theorem own_254 {t : Int32} (h : 0 ≤ t.toInt ∧ t.toInt < 256) : 0 ≤ (t &&& 254).toInt ∧ (t &&& 254).toInt < 256 ∧ ((t &&& 254) &&& 31) ≠ 31 := by
  have e1 := own_sm (own_nn h.1)
  have e2 : (t &&& 254).toBitVec.toNat = t.toBitVec.toNat &&& 254 := by simp
  have e3 := own_and254 t.toBitVec.toNat (by omega)
  have e4 := own_sm (y := t &&& 254) (by rw [e2]; omega)
  refine ⟨by omega, by omega, fun q => e3.1 ?_⟩
  have := congrArg (fun z : Int32 => z.toBitVec.toNat) q
  simpa using this
theorem own_b255 (t : Int32) (h0 : 0 ≤ t.toInt) (h1 : t.toInt < 256) : (t.toInt8.toInt32 &&& 255) = t := by
  have e1 : (t.toInt8.toInt32 &&& 255).toInt = t.toInt8.toInt32.toInt % 2 ^ 8 := Jvm.Kit.i32_mask _ 255 (k := 8) (by decide) (by decide)
  have e2 : t.toInt8.toInt32.toInt = t.toInt8.toInt := Int8.toInt_toInt32 _
  have e3 : t.toInt8.toInt = t.toInt.bmod (2 ^ 8) := Int32.toInt_toInt8 t
  apply own_toInt
  rw [e1, e2, e3]
  have e4 : t.toInt.bmod (2 ^ 8) = if t.toInt < 128 then t.toInt else t.toInt - 256 := by
    rw [Int.bmod_def]; simp; omega
  rw [e4]
  split <;> omega
theorem own_tag {x t1 tv : Int32} (ht : t1 = x &&& 255) (hv : tv = (if (t1 &&& 31) = 31 then (t1 &&& 254) else t1)) : ¬ (((tv.toInt8.toInt32 &&& 255) &&& 31) = 31) := by
  have b1 := own_m x 255 (k := 8) (by decide) (by decide)
  rw [← ht] at b1
  have b2 : 0 ≤ (t1 &&& 254).toInt ∧ (t1 &&& 254).toInt < 256 ∧ ((t1 &&& 254) &&& 31) ≠ 31 := own_254 b1
  by_cases c : (t1 &&& 31) = 31
  · rw [if_pos c] at hv
    rw [hv, own_b255 _ b2.1 b2.2.1]
    exact b2.2.2
  · rw [if_neg c] at hv
    rw [hv, own_b255 _ b1.1 b1.2]
    exact c
theorem own_add {a b : Nat} (h : a + b < 2147483648) : a.toInt32 + b.toInt32 = (a + b).toInt32 := by
  apply own_toInt
  rw [Jvm.Kit.i32_add (by rw [own_i (by omega), own_i (by omega)]; omega) (by rw [own_i (by omega), own_i (by omega)]; omega), own_i (by omega), own_i (by omega), own_i (by omega)]
  omega
theorem own_sub {a b : Nat} (h : a + b < 2147483648) : (a + b).toInt32 - a.toInt32 = b.toInt32 := by
  apply own_toInt
  rw [Jvm.Kit.i32_sub (by rw [own_i (by omega), own_i (by omega)]; omega) (by rw [own_i (by omega), own_i (by omega)]; omega), own_i (by omega), own_i (by omega), own_i (by omega)]
  omega
theorem own_at1 {gs es : List Int32} {f n : Nat} (hg : gs.length = n) (hfn : f + n ≤ 6) (hv : ∀ i, i < n → gs.getD i 0 = es.getD (f + i) 0) (k : Nat) (hk : k < 6) : K8_0 gs es f.toInt32 k.toInt32 = 1 := by
  rw [K8_0, hg, own_add (by omega), own_nat (by omega), own_nat (by omega)]
  by_cases c : k < n
  · rw [if_pos ((own_ilt (by omega) (by omega)).2 c), if_pos (hv k c)]
  · rw [if_neg (fun q => c ((own_ilt (by omega) (by omega)).1 q))]
theorem own_sl {gs es : List Int32} {f n : Nat} (hg : gs.length = n) (hfn : f + n ≤ 6) (hv : ∀ i, i < n → gs.getD i 0 = es.getD (f + i) 0) : K7_0 gs es f.toInt32 (f + n).toInt32 = 1 := by
  have a0 : K8_0 gs es f.toInt32 0 = 1 := own_at1 hg hfn hv 0 (by decide)
  have a1 : K8_0 gs es f.toInt32 1 = 1 := own_at1 hg hfn hv 1 (by decide)
  have a2 : K8_0 gs es f.toInt32 2 = 1 := own_at1 hg hfn hv 2 (by decide)
  have a3 : K8_0 gs es f.toInt32 3 = 1 := own_at1 hg hfn hv 3 (by decide)
  have a4 : K8_0 gs es f.toInt32 4 = 1 := own_at1 hg hfn hv 4 (by decide)
  have a5 : K8_0 gs es f.toInt32 5 = 1 := own_at1 hg hfn hv 5 (by decide)
  rw [K7_0, hg, own_sub (by omega), if_pos rfl, a0, a1, a2, a3, a4, a5]
  decide
theorem own_okl {gs es : List Int32} {f n : Nat} (hg : gs.length = n) (he : es.length = 6) (hfn : f + n ≤ 6) : ∀ x3 : Int32, 0 ≤ x3.toInt → x3.toInt < 6 → x3 < gs.length.toInt32 → ¬ x3 < 0 ∧ x3.toNatClampNeg < gs.length ∧ ¬ (f.toInt32 + x3) < 0 ∧ (f.toInt32 + x3).toNatClampNeg < es.length := by
  intro x3 h0 h6 hc
  have hz := own_zero
  rw [Int32.lt_iff_toInt_lt, hg, own_i (by omega)] at hc
  have hs : (f.toInt32 + x3).toInt = f + x3.toInt := by rw [Jvm.Kit.i32_add (by rw [own_i (by omega)]; omega) (by rw [own_i (by omega)]; omega), own_i (by omega)]
  rw [Int32.lt_iff_toInt_lt, Int32.lt_iff_toInt_lt, hg, he, hs, hz]
  refine ⟨by omega, ?_, by omega, ?_⟩
  · show x3.toInt.toNat < n; omega
  · show (f.toInt32 + x3).toInt.toNat < 6; rw [hs]; omega
theorem own_five {x z : Int32} (h : z = (x &&& 7) % 5) : z = 0 ∨ z = 1 ∨ z = 2 ∨ z = 3 ∨ z = 4 := by
  have h0 := (own_m x 7 (k := 3) (by decide) (by decide)).1
  have e5 : (5 : Int32).toInt = 5 := by decide
  have e : z.toInt = (x &&& 7).toInt % 5 := by rw [h, Jvm.Kit.i32_rem_nonneg h0, e5]
  have e2 : (2 : Int32).toInt = 2 := by decide
  have e3 : (3 : Int32).toInt = 3 := by decide
  have e4 : (4 : Int32).toInt = 4 := by decide
  simp only [← Int32.toInt_inj, own_zero, own_one, e2, e3, e4]
  omega
theorem ef_0 (m : MethodId) (x0 : Int32) (x1 : Int32) (x2 : Int32) : entryFrame m #[(.int x0), (.int x1), (.int x2)] maxLocals = mkF m 0 #[.val (.int x0), .val (.int x1), .val (.int x2), .unset, .unset, .unset, .unset, .unset, .unset, .unset] [] := by first | (simp [entryFrame, mkF, argsToLocals, Value.category, maxLocals]; done) | rfl
set_option maxRecDepth 65536 in
set_option maxHeartbeats 40000000 in
theorem rm0 (l : Launch) (Z : State) (a0 : Array Value) (hw : ∀ d ∈ tables_1, d.before a0 Z = true) (x0 : Int32) (x1 : Int32) (x2 : Int32) (h0 : Heap) (n0 : Nat) (Z0 : n0 ≤ h0.size) :
    Con l Z x code maxLocals ret room_1 #[(.int x0), (.int x1), (.int x2)] h0 (QL (some (.int 1)) n0) := by
  refine Con.of (plainFor_of_name (by first | (simp [plainName, overriddenIn]; done) | decide +kernel)) ?_
  intro p e s m below meth c T X hx hZ hby hml hown hnm hret hlk e0
  rw [ef_0]
  have N0 := Fr.nil n0
  show Go p e below s room_1.cells room_1.slots (QL (some (.int 1)) n0) T (mkF m 0 #[.val (.int x0), .val (.int x1), .val (.int x2), .unset, .unset, .unset, .unset, .unset, .unset, .unset] [])
  refine w_iloadN X hx (hb hby at_0) (pc' := 1) rfl rfl ?_
  refine w_sipush (v := 255) X hx (hb hby at_1) (pc' := 4) rfl rfl ?_
  refine w_iand X hx (hb hby at_4) (pc' := 5) rfl ?_
  refine w_istoreN (Ls' := #[.val (.int x0), .val (.int x1), .val (.int x2), .val (.int (x0 &&& (255 : Int32))), .unset, .unset, .unset, .unset, .unset, .unset]) X hx (hb hby at_5) (pc' := 6) rfl rfl ?_
  obtain ⟨t1, ht1⟩ : ∃ z : Int32, z = (x0 &&& (255 : Int32)) := ⟨_, rfl⟩
  rw [← ht1]
  refine w_iloadN X hx (hb hby at_6) (pc' := 7) rfl rfl ?_
  refine w_bipush (v := 31) X hx (hb hby at_7) (pc' := 9) rfl rfl ?_
  refine w_iand X hx (hb hby at_9) (pc' := 10) rfl ?_
  refine w_bipush (v := 31) X hx (hb hby at_10) (pc' := 12) rfl rfl ?_
  have J21_72 : ∀ (v71 : Int32), v71 = (if (t1 &&& (31 : Int32)) = (31 : Int32) then (t1 &&& (254 : Int32)) else t1) → Go p e below s room_1.cells room_1.slots (QL (some (.int 1)) n0) T (mkF m 21 #[.val (.int x0), .val (.int x1), .val (.int x2), .val (.int v71), .unset, .unset, .unset, .unset, .unset, .unset] []) := by
    intro v71 hv71
    refine w_iloadN X hx (hb hby at_21) (pc' := 22) rfl rfl ?_
    refine w_bipush (v := 7) X hx (hb hby at_22) (pc' := 24) rfl rfl ?_
    refine w_iand X hx (hb hby at_24) (pc' := 25) rfl ?_
    refine w_iconst (v := 5) X hx (hb hby at_25) (pc' := 26) rfl rfl ?_
    refine w_irem X hx (hb hby at_26) (pc' := 27) rfl (by decide) ?_
    refine w_istore (Ls' := #[.val (.int x0), .val (.int x1), .val (.int x2), .val (.int v71), .val (.int ((x1 &&& (7 : Int32)) % (5 : Int32))), .unset, .unset, .unset, .unset, .unset]) X hx (hb hby at_27) (pc' := 29) rfl rfl ?_
    obtain ⟨ln, hln⟩ : ∃ z : Int32, z = ((x1 &&& (7 : Int32)) % (5 : Int32)) := ⟨_, rfl⟩
    rw [← hln]
    rcases (own_five hln) with rfl | rfl | rfl | rfl | rfl
    · refine w_bipush (v := 6) X hx (hb hby at_29) (pc' := 31) rfl rfl ?_
      refine w_newB X hx hZ (cap := 6) e0 (hw _ (List.mem_of_getElem? (i := 0) rfl)) (by decide) (by decide) (by decide) (by decide) (by decide) (hb hby at_31) (pc' := 33) rfl (fun T73 h73 b73 X73 e73 E73 q73 V73 => ?_)
      have g_b73 : n0 ≤ b73 := by rw [q73]; exact Z0
      have V73 : AI Z h73 b73 .byte [(0 : Int32), (0 : Int32), (0 : Int32), (0 : Int32), (0 : Int32), (0 : Int32)] := V73
      have zn73 : n0 ≤ h73.size := Nat.le_trans Z0 E73.1
      refine w_astore (Ls' := #[.val (.int x0), .val (.int x1), .val (.int x2), .val (.int v71), .val (.int (0 : Int32)), .val (.ref b73), .unset, .unset, .unset, .unset]) X73 hx (hb hby at_33) (pc' := 35) rfl rfl rfl ?_
      refine w_bipush (v := 6) X73 hx (hb hby at_35) (pc' := 37) rfl rfl ?_
      refine w_newB X73 hx hZ (cap := 6) e73 (hw _ (List.mem_of_getElem? (i := 0) rfl)) (by decide) (by decide) (by decide) (by decide) (by decide) (hb hby at_37) (pc' := 39) rfl (fun T74 h74 b74 X74 e74 E74 q74 V74 => ?_)
      have g_b74 : n0 ≤ b74 := by rw [q74]; exact zn73
      have ne_b73_b74 : b73 ≠ b74 := by rw [q74]; exact Nat.ne_of_lt V73.lt
      have V74 : AI Z h74 b74 .byte [(0 : Int32), (0 : Int32), (0 : Int32), (0 : Int32), (0 : Int32), (0 : Int32)] := V74
      have zn74 : n0 ≤ h74.size := Nat.le_trans zn73 E74.1
      refine w_astore (Ls' := #[.val (.int x0), .val (.int x1), .val (.int x2), .val (.int v71), .val (.int (0 : Int32)), .val (.ref b73), .val (.ref b74), .unset, .unset, .unset]) X74 hx (hb hby at_39) (pc' := 41) rfl rfl rfl ?_
      refine w_aload X74 hx (hb hby at_41) (pc' := 43) rfl rfl rfl ?_
      refine w_iloadN X74 hx (hb hby at_43) (pc' := 44) rfl rfl ?_
      refine w_iload X74 hx (hb hby at_44) (pc' := 46) rfl rfl ?_
      refine w_iloadN X74 hx (hb hby at_46) (pc' := 47) rfl rfl ?_
      have f76 := V73.ext E74
      refine w_callS (argsL := [(.ref b73), (.int v71), (.int (0 : Int32)), (.int x2)]) (rest := []) X74 hx hZ hown e74 (rm1 l Z a0 hw b73 v71 (0 : Int32) x2 h74 n0 zn74 (0 : Int32) (0 : Int32) (0 : Int32) (0 : Int32) (0 : Int32) (0 : Int32) g_b73 f76) (hw _ (List.mem_of_getElem? (i := 1) rfl)) (hw _ (List.mem_of_getElem? (i := 2) rfl)) (hw _ (List.mem_of_getElem? (i := 3) rfl)) (hw _ (List.mem_of_getElem? (i := 4) rfl)) (by decide) (by decide) (W := 0) (by decide) (by decide) (by decide) (by rw [hml]; rfl) (lenOf pd_4 rfl) (Nat.le_refl _) rfl (hb hby at_47) (pc' := 50) rfl (fun T75 L75 v75 X75 hQ75 => ?_)
      obtain ⟨rfl, N75q, K75, V75⟩ := hQ75
      have zn75 : n0 ≤ T75.heap.size := Nat.le_trans zn74 K75.1
      have N75 := Fr.app N0 N75q
      have X75 : Stand p l e room_1 s m _ below meth c T75 _ 2 12 := X75
      rw [show (0 : Int32).toInt8.toInt32 = (0 : Int32) from by decide] at V75
      show Go p e below s room_1.cells room_1.slots (QL (some (.int 1)) n0) T75 (mkF m 50 #[.val (.int x0), .val (.int x1), .val (.int x2), .val (.int v71), .val (.int (0 : Int32)), .val (.ref b73), .val (.ref b74), .unset, .unset, .unset] [])
      refine w_aload X75 hx (hb hby at_50) (pc' := 52) rfl rfl rfl ?_
      refine w_iloadN X75 hx (hb hby at_52) (pc' := 53) rfl rfl ?_
      refine w_iload X75 hx (hb hby at_53) (pc' := 55) rfl rfl ?_
      refine w_iloadN X75 hx (hb hby at_55) (pc' := 56) rfl rfl ?_
      have f78 := V74.keep K75 (ninS (Ne.symm ne_b73_b74) nin0)
      refine w_callS (argsL := [(.ref b74), (.int v71), (.int (0 : Int32)), (.int x2)]) (rest := []) X75 hx hZ hown rfl (rm1 l Z a0 hw b74 v71 (0 : Int32) x2 T75.heap n0 zn75 (0 : Int32) (0 : Int32) (0 : Int32) (0 : Int32) (0 : Int32) (0 : Int32) g_b74 f78) (hw _ (List.mem_of_getElem? (i := 1) rfl)) (hw _ (List.mem_of_getElem? (i := 2) rfl)) (hw _ (List.mem_of_getElem? (i := 3) rfl)) (hw _ (List.mem_of_getElem? (i := 4) rfl)) (by decide) (by decide) (W := 0) (by decide) (by decide) (by decide) (by rw [hml]; rfl) (lenOf pd_4 rfl) (Nat.le_refl _) rfl (hb hby at_56) (pc' := 59) rfl (fun T77 L77 v77 X77 hQ77 => ?_)
      obtain ⟨rfl, N77q, K77, V77⟩ := hQ77
      have zn77 : n0 ≤ T77.heap.size := Nat.le_trans zn75 K77.1
      have N77 := Fr.app N75 N77q
      have X77 : Stand p l e room_1 s m _ below meth c T77 _ 2 12 := X77
      rw [show (0 : Int32).toInt8.toInt32 = (0 : Int32) from by decide] at V77
      show Go p e below s room_1.cells room_1.slots (QL (some (.int 1)) n0) T77 (mkF m 59 #[.val (.int x0), .val (.int x1), .val (.int x2), .val (.int v71), .val (.int (0 : Int32)), .val (.ref b73), .val (.ref b74), .unset, .unset, .unset] [])
      refine w_newO X77 hx hZ hown rfl (hw _ (List.mem_of_getElem? (i := 5) rfl)) (hw _ (List.mem_of_getElem? (i := 6) rfl)) (hw _ (List.mem_of_getElem? (i := 7) rfl)) (hb hby at_59) (by decide) (by decide) (pc' := 62) rfl (fun T79 h79 b79 X79 e79 E79 q79 A79 D79 => ?_)
      have g_b79 : n0 ≤ b79 := by rw [q79]; exact zn77
      have f80 := V75.keep K77 (ninS ne_b73_b74 nin0)
      have ne_b73_b79 : b73 ≠ b79 := by rw [q79]; exact Nat.ne_of_lt f80.lt
      have ne_b74_b79 : b74 ≠ b79 := by rw [q79]; exact Nat.ne_of_lt V77.lt
      have F_input_b79 : Fld Z h79 b79 "com/example/inwrap/inwrap/DerReader" "input" "[B" .null := D79 (Or.inr (hw _ (List.mem_of_getElem? (i := 18) rfl))) (ty := (.array .byte)) (by decide)
      have F_position_b79 : Fld Z h79 b79 "com/example/inwrap/inwrap/DerReader" "position" "I" (.int (0 : Int32)) := D79 (Or.inl (hw _ (List.mem_of_getElem? (i := 20) rfl))) (ty := .int) (by decide)
      have F_end_b79 : Fld Z h79 b79 "com/example/inwrap/inwrap/DerReader" "end" "I" (.int (0 : Int32)) := D79 (Or.inr (hw _ (List.mem_of_getElem? (i := 22) rfl))) (ty := .int) (by decide)
      have zn79 : n0 ≤ h79.size := Nat.le_trans zn77 E79.1
      refine w_dup X79 hx (hb hby at_62) (pc' := 63) rfl rfl ?_
      refine w_aload X79 hx (hb hby at_63) (pc' := 65) rfl rfl rfl ?_
      have f82 := f80.ext E79
      refine w_callI (argsL := [(.ref b73)]) (rest := [(.ref b79)]) (a := b79) X79 hx hZ hown e79 (rm2 l Z a0 hw b79 b73 h79 n0 zn79 A79 g_b79 F_input_b79 F_position_b79 F_end_b79 v71.toInt8.toInt32 (0 : Int32) x2.toInt8.toInt32 (jushr x2 (8 : Int32)).toInt8.toInt32 (jushr x2 (16 : Int32)).toInt8.toInt32 (jushr x2 (24 : Int32)).toInt8.toInt32 f82 ne_b73_b79) rfl (hw _ (List.mem_of_getElem? (i := 8) rfl)) (hw _ (List.mem_of_getElem? (i := 9) rfl)) (hw _ (List.mem_of_getElem? (i := 7) rfl)) (hw _ (List.mem_of_getElem? (i := 10) rfl)) (by decide) (by decide) (W := 1) (by decide) (by decide) (by decide) (by rw [hml]; rfl) (lenOf pd_5 rfl) (Nat.le_refl _) rfl (hb hby at_65) (pc' := 68) rfl (fun T81 L81 v81 X81 hQ81 => ?_)
      obtain ⟨rfl, N81q, K81, F_input_81, F_position_81, F_end_81⟩ := hQ81
      have zn81 : n0 ≤ T81.heap.size := Nat.le_trans zn79 K81.1
      have N81 := Fr.app N77 N81q
      have X81 : Stand p l e room_1 s m _ below meth c T81 _ 3 15 := X81
      show Go p e below s room_1.cells room_1.slots (QL (some (.int 1)) n0) T81 (mkF m 68 #[.val (.int x0), .val (.int x1), .val (.int x2), .val (.int v71), .val (.int (0 : Int32)), .val (.ref b73), .val (.ref b74), .unset, .unset, .unset] [(.ref b79)])
      refine w_astore (Ls' := #[.val (.int x0), .val (.int x1), .val (.int x2), .val (.int v71), .val (.int (0 : Int32)), .val (.ref b73), .val (.ref b74), .val (.ref b79), .unset, .unset]) X81 hx (hb hby at_68) (pc' := 70) rfl rfl rfl ?_
      refine w_aload X81 hx (hb hby at_70) (pc' := 72) rfl rfl rfl ?_
      have f84 := f82.keep K81 (ninS ne_b73_b79 nin0)
      have f85 := V77.ext E79
      have f86 := f85.keep K81 (ninS ne_b74_b79 nin0)
      have f87 := A79.keep K81
      refine w_callV (argsL := []) (rest := []) (a := b79) X81 hx hZ hown rfl f87 (rm5 l Z a0 hw b79 T81.heap n0 zn81 b73 [v71.toInt8.toInt32, (0 : Int32), x2.toInt8.toInt32, (jushr x2 (8 : Int32)).toInt8.toInt32, (jushr x2 (16 : Int32)).toInt8.toInt32, (jushr x2 (24 : Int32)).toInt8.toInt32] 0 6 F_input_81 F_position_81 F_end_81 f84 (own_fit6 (fits_nar_byte _) (by decide) (fits_nar_byte _) (fits_nar_byte _) (fits_nar_byte _) (fits_nar_byte _)) (by decide) (by show 0 ≤ 6; decide) (by decide) (by decide)) (hw _ (List.mem_of_getElem? (i := 23) rfl)) (hw _ (List.mem_of_getElem? (i := 24) rfl)) (hw _ (List.mem_of_getElem? (i := 26) rfl)) (hw _ (List.mem_of_getElem? (i := 25) rfl)) (hw _ (List.mem_of_getElem? (i := 7) rfl)) (hw _ (List.mem_of_getElem? (i := 27) rfl)) (by decide) (by decide) (W := 0) (by decide) (by decide) (by decide) (by rw [hml]; rfl) (lenOf pd_6 rfl) (Nat.le_refl _) rfl (hb hby at_72) (pc' := 75) rfl (fun T83 L83 v83 X83 hQ83 => ?_)
      obtain ⟨b83, rfl, N83q, K83, sz83, V83⟩ := hQ83
      have zn83 : n0 ≤ T83.heap.size := Nat.le_trans zn81 K83.1
      have g_b83 : n0 ≤ b83 := Nat.le_trans zn81 sz83
      have ne_b73_b83 : b73 ≠ b83 := Nat.ne_of_lt (Nat.lt_of_lt_of_le f84.lt sz83)
      have ne_b74_b83 : b74 ≠ b83 := Nat.ne_of_lt (Nat.lt_of_lt_of_le f86.lt sz83)
      have ne_b79_b83 : b79 ≠ b83 := Nat.ne_of_lt (Nat.lt_of_lt_of_le f87.lt sz83)
      have N83 := Fr.app N81 N83q
      have X83 : Stand p l e room_1 s m _ below meth c T83 _ 4 21 := X83
      have V83 : AI Z T83.heap b83 .byte [v71.toInt8.toInt32, (0 : Int32), x2.toInt8.toInt32, (jushr x2 (8 : Int32)).toInt8.toInt32, (jushr x2 (16 : Int32)).toInt8.toInt32, (jushr x2 (24 : Int32)).toInt8.toInt32] := V83
      show Go p e below s room_1.cells room_1.slots (QL (some (.int 1)) n0) T83 (mkF m 75 #[.val (.int x0), .val (.int x1), .val (.int x2), .val (.int v71), .val (.int (0 : Int32)), .val (.ref b73), .val (.ref b74), .val (.ref b79), .unset, .unset] [(.ref b83)])
      refine w_astore (Ls' := #[.val (.int x0), .val (.int x1), .val (.int x2), .val (.int v71), .val (.int (0 : Int32)), .val (.ref b73), .val (.ref b74), .val (.ref b79), .val (.ref b83), .unset]) X83 hx (hb hby at_75) (pc' := 77) rfl rfl rfl ?_
      refine w_aload X83 hx (hb hby at_77) (pc' := 79) rfl rfl rfl ?_
      refine w_aload X83 hx (hb hby at_79) (pc' := 81) rfl rfl rfl ?_
      refine w_iconst (v := 0) X83 hx (hb hby at_81) (pc' := 82) rfl rfl ?_
      refine w_bipush (v := 6) X83 hx (hb hby at_82) (pc' := 84) rfl rfl ?_
      have f89 := f86.keep K83 nin0
      refine w_callS (argsL := [(.ref b83), (.ref b74), (.int (0 : Int32)), (.int (6 : Int32))]) (rest := []) X83 hx hZ hown rfl (rm7 l Z a0 hw b83 b74 (0 : Int32) (6 : Int32) T83.heap n0 [v71.toInt8.toInt32, (0 : Int32), x2.toInt8.toInt32, (jushr x2 (8 : Int32)).toInt8.toInt32, (jushr x2 (16 : Int32)).toInt8.toInt32, (jushr x2 (24 : Int32)).toInt8.toInt32] [v71.toInt8.toInt32, (0 : Int32), x2.toInt8.toInt32, (jushr x2 (8 : Int32)).toInt8.toInt32, (jushr x2 (16 : Int32)).toInt8.toInt32, (jushr x2 (24 : Int32)).toInt8.toInt32] V83 f89 (own_okl (f := 0) (n := 6) rfl rfl (by decide))) (hw _ (List.mem_of_getElem? (i := 41) rfl)) (hw _ (List.mem_of_getElem? (i := 42) rfl)) (hw _ (List.mem_of_getElem? (i := 3) rfl)) (hw _ (List.mem_of_getElem? (i := 43) rfl)) (by decide) (by decide) (W := 0) (by decide) (by decide) (by decide) (by rw [hml]; rfl) (lenOf pd_3 rfl) (Nat.le_refl _) rfl (hb hby at_84) (pc' := 87) rfl (fun T88 L88 v88 X88 hQ88 => ?_)
      obtain ⟨rfl, N88q, e88⟩ := hQ88
      have N88 := Fr.app N83 N88q
      have X88 : Stand p l e room_1 s m _ below meth c T88 _ 4 21 := X88
      show Go p e below s room_1.cells room_1.slots (QL (some (.int 1)) n0) T88 (mkF m 87 #[.val (.int x0), .val (.int x1), .val (.int x2), .val (.int v71), .val (.int (0 : Int32)), .val (.ref b73), .val (.ref b74), .val (.ref b79), .val (.ref b83), .unset] [(.int (K7_0 [v71.toInt8.toInt32, (0 : Int32), x2.toInt8.toInt32, (jushr x2 (8 : Int32)).toInt8.toInt32, (jushr x2 (16 : Int32)).toInt8.toInt32, (jushr x2 (24 : Int32)).toInt8.toInt32] [v71.toInt8.toInt32, (0 : Int32), x2.toInt8.toInt32, (jushr x2 (8 : Int32)).toInt8.toInt32, (jushr x2 (16 : Int32)).toInt8.toInt32, (jushr x2 (24 : Int32)).toInt8.toInt32] (0 : Int32) (6 : Int32)))])
      have hf87 : ¬ ((K7_0 [v71.toInt8.toInt32, (0 : Int32), x2.toInt8.toInt32, (jushr x2 (8 : Int32)).toInt8.toInt32, (jushr x2 (16 : Int32)).toInt8.toInt32, (jushr x2 (24 : Int32)).toInt8.toInt32] [v71.toInt8.toInt32, (0 : Int32), x2.toInt8.toInt32, (jushr x2 (8 : Int32)).toInt8.toInt32, (jushr x2 (16 : Int32)).toInt8.toInt32, (jushr x2 (24 : Int32)).toInt8.toInt32] (0 : Int32) (6 : Int32)) = (0 : Int32)) := (by have hs := own_sl (gs := [v71.toInt8.toInt32, (0 : Int32), x2.toInt8.toInt32, (jushr x2 (8 : Int32)).toInt8.toInt32, (jushr x2 (16 : Int32)).toInt8.toInt32, (jushr x2 (24 : Int32)).toInt8.toInt32]) (es := [v71.toInt8.toInt32, (0 : Int32), x2.toInt8.toInt32, (jushr x2 (8 : Int32)).toInt8.toInt32, (jushr x2 (16 : Int32)).toInt8.toInt32, (jushr x2 (24 : Int32)).toInt8.toInt32]) (f := 0) (n := 6) rfl (by decide) (by intro i hi; have hq : i = 0 ∨ i = 1 ∨ i = 2 ∨ i = 3 ∨ i = 4 ∨ i = 5 := (by omega); rcases hq with rfl | rfl | rfl | rfl | rfl | rfl <;> rfl); intro hq; exact absurd (hs.symm.trans hq) (by decide))
      refine w_if_ne X88 hx (hb hby at_87) (pf := 90) (pt := 92) rfl (by decide) (by decide) (fun hc87 => ?_) (fun hc => absurd hc hf87)
      refine w_aload X88 hx (hb hby at_92) (pc' := 94) rfl rfl rfl ?_
      refine w_iconst (v := 5) X88 hx (hb hby at_94) (pc' := 95) rfl rfl ?_
      refine w_aload X88 hx (hb hby at_95) (pc' := 97) rfl rfl rfl ?_
      refine w_iconst (v := 5) X88 hx (hb hby at_97) (pc' := 98) rfl rfl ?_
      refine w_baload X88 hx hZ e88 V83 (v := (jushr x2 (24 : Int32)).toInt8.toInt32) (by decide) rfl (hb hby at_98) (pc' := 99) rfl ?_
      refine w_iconst (v := 1) X88 hx (hb hby at_99) (pc' := 100) rfl rfl ?_
      refine w_ixor X88 hx (hb hby at_100) (pc' := 101) rfl ?_
      refine w_i2b X88 hx (hb hby at_101) (pc' := 102) rfl ?_
      refine w_bastore X88 hx hZ e88 V83 (by decide) (by show _ < 6; decide) (hb hby at_102) (pc' := 103) rfl (fun T90 h90 X90 e90 W90 V90 => ?_)
      have qv90 : (nar .byte ((jushr x2 (24 : Int32)).toInt8.toInt32 ^^^ (1 : Int32)).toInt8.toInt32) = ((jushr x2 (24 : Int32)).toInt8.toInt32 ^^^ (1 : Int32)).toInt8.toInt32 := own_nb _
      rw [qv90] at V90
      have V90 : AI Z h90 b83 .byte [v71.toInt8.toInt32, (0 : Int32), x2.toInt8.toInt32, (jushr x2 (8 : Int32)).toInt8.toInt32, (jushr x2 (16 : Int32)).toInt8.toInt32, ((jushr x2 (24 : Int32)).toInt8.toInt32 ^^^ (1 : Int32)).toInt8.toInt32] := V90
      have N90 := Fr.snoc X90 N88 g_b83
      have zn90 : n0 ≤ h90.size := by rw [W90.size]; exact zn83
      refine w_aload X90 hx (hb hby at_103) (pc' := 105) rfl rfl rfl ?_
      have f92 := f87.keep K83
      have f93 := f92.wr W90
      have f94 := F_input_81.keep K83 nin0
      have f95 := f94.other W90 (Or.inl ne_b79_b83)
      have f96 := F_position_81.keep K83 nin0
      have f97 := f96.other W90 (Or.inl ne_b79_b83)
      have f98 := F_end_81.keep K83 nin0
      have f99 := f98.other W90 (Or.inl ne_b79_b83)
      have f100 := f84.keep K83 nin0
      have f101 := f100.other W90 ne_b73_b83
      have f102 := f89.other W90 ne_b74_b83
      refine w_callV (argsL := []) (rest := []) (a := b79) X90 hx hZ hown e90 f93 (rm9 l Z a0 hw b79 h90 n0 zn90 b73 v71.toInt8.toInt32 (0 : Int32) x2.toInt8.toInt32 (jushr x2 (8 : Int32)).toInt8.toInt32 (jushr x2 (16 : Int32)).toInt8.toInt32 (jushr x2 (24 : Int32)).toInt8.toInt32 f93 g_b79 f95 f97 f99 f101 ne_b73_b79 (own_tag ht1 hv71) (by decide)) (hw _ (List.mem_of_getElem? (i := 47) rfl)) (hw _ (List.mem_of_getElem? (i := 48) rfl)) (hw _ (List.mem_of_getElem? (i := 50) rfl)) (hw _ (List.mem_of_getElem? (i := 49) rfl)) (hw _ (List.mem_of_getElem? (i := 7) rfl)) (hw _ (List.mem_of_getElem? (i := 51) rfl)) (by decide) (by decide) (W := 0) (by decide) (by decide) (by decide) (by rw [hml]; rfl) (lenOf pd_7 rfl) (Nat.le_refl _) rfl (hb hby at_105) (pc' := 108) rfl (fun T91 L91 v91 X91 hQ91 => ?_)
      obtain ⟨b91, rfl, N91q, K91, sz91, E91, Finput_91, Fposition_91, Fend_91, Fop_91, Finputo_91, Fendo_91⟩ := hQ91
      have zn91 : n0 ≤ T91.heap.size := Nat.le_trans zn90 K91.1
      have g_b91 : n0 ≤ b91 := Nat.le_trans zn90 sz91
      have ne_b73_b91 : b73 ≠ b91 := Nat.ne_of_lt (Nat.lt_of_lt_of_le f101.lt sz91)
      have ne_b74_b91 : b74 ≠ b91 := Nat.ne_of_lt (Nat.lt_of_lt_of_le f102.lt sz91)
      have ne_b79_b91 : b79 ≠ b91 := Nat.ne_of_lt (Nat.lt_of_lt_of_le f93.lt sz91)
      have ne_b83_b91 : b83 ≠ b91 := Nat.ne_of_lt (Nat.lt_of_lt_of_le V90.lt sz91)
      have N91 := Fr.app N90 N91q
      have X91 : Stand p l e room_1 s m _ below meth c T91 _ 5 24 := X91
      rw [show ((2 : Int32) + ((0 : Int32) &&& (255 : Int32))) = (2 : Int32) from by decide] at Fend_91 Fop_91
      show Go p e below s room_1.cells room_1.slots (QL (some (.int 1)) n0) T91 (mkF m 108 #[.val (.int x0), .val (.int x1), .val (.int x2), .val (.int v71), .val (.int (0 : Int32)), .val (.ref b73), .val (.ref b74), .val (.ref b79), .val (.ref b83), .unset] [(.ref b91)])
      refine w_astore (Ls' := #[.val (.int x0), .val (.int x1), .val (.int x2), .val (.int v71), .val (.int (0 : Int32)), .val (.ref b73), .val (.ref b74), .val (.ref b79), .val (.ref b83), .val (.ref b91)]) X91 hx (hb hby at_108) (pc' := 110) rfl rfl rfl ?_
      refine w_aload X91 hx (hb hby at_110) (pc' := 112) rfl rfl rfl ?_
      have f104 := f101.keep K91 (ninS ne_b73_b79 nin0)
      have f105 := f102.keep K91 (ninS ne_b74_b79 nin0)
      have f106 := f93.keep K91
      have f107 := V90.keep K91 (ninS (Ne.symm ne_b79_b83) nin0)
      refine w_callV (argsL := []) (rest := []) (a := b91) X91 hx hZ hown rfl E91 (rm5 l Z a0 hw b91 T91.heap n0 zn91 b73 [v71.toInt8.toInt32, (0 : Int32), x2.toInt8.toInt32, (jushr x2 (8 : Int32)).toInt8.toInt32, (jushr x2 (16 : Int32)).toInt8.toInt32, (jushr x2 (24 : Int32)).toInt8.toInt32] 2 2 Finput_91 Fposition_91 Fend_91 f104 (own_fit6 (fits_nar_byte _) (by decide) (fits_nar_byte _) (fits_nar_byte _) (fits_nar_byte _) (fits_nar_byte _)) (by decide) (by show 2 ≤ 6; decide) (by decide) (by decide)) (hw _ (List.mem_of_getElem? (i := 23) rfl)) (hw _ (List.mem_of_getElem? (i := 24) rfl)) (hw _ (List.mem_of_getElem? (i := 26) rfl)) (hw _ (List.mem_of_getElem? (i := 25) rfl)) (hw _ (List.mem_of_getElem? (i := 7) rfl)) (hw _ (List.mem_of_getElem? (i := 27) rfl)) (by decide) (by decide) (W := 0) (by decide) (by decide) (by decide) (by rw [hml]; rfl) (lenOf pd_6 rfl) (Nat.le_refl _) rfl (hb hby at_112) (pc' := 115) rfl (fun T103 L103 v103 X103 hQ103 => ?_)
      obtain ⟨b103, rfl, N103q, K103, sz103, V103⟩ := hQ103
      have zn103 : n0 ≤ T103.heap.size := Nat.le_trans zn91 K103.1
      have g_b103 : n0 ≤ b103 := Nat.le_trans zn91 sz103
      have ne_b73_b103 : b73 ≠ b103 := Nat.ne_of_lt (Nat.lt_of_lt_of_le f104.lt sz103)
      have ne_b74_b103 : b74 ≠ b103 := Nat.ne_of_lt (Nat.lt_of_lt_of_le f105.lt sz103)
      have ne_b79_b103 : b79 ≠ b103 := Nat.ne_of_lt (Nat.lt_of_lt_of_le f106.lt sz103)
      have ne_b83_b103 : b83 ≠ b103 := Nat.ne_of_lt (Nat.lt_of_lt_of_le f107.lt sz103)
      have ne_b91_b103 : b91 ≠ b103 := Nat.ne_of_lt (Nat.lt_of_lt_of_le E91.lt sz103)
      have N103 := Fr.app N91 N103q
      have X103 : Stand p l e room_1 s m _ below meth c T103 _ 6 30 := X103
      have V103 : AI Z T103.heap b103 .byte [] := V103
      show Go p e below s room_1.cells room_1.slots (QL (some (.int 1)) n0) T103 (mkF m 115 #[.val (.int x0), .val (.int x1), .val (.int x2), .val (.int v71), .val (.int (0 : Int32)), .val (.ref b73), .val (.ref b74), .val (.ref b79), .val (.ref b83), .val (.ref b91)] [(.ref b103)])
      refine w_aload X103 hx (hb hby at_115) (pc' := 117) rfl rfl rfl ?_
      refine w_iconst (v := 2) X103 hx (hb hby at_117) (pc' := 118) rfl rfl ?_
      refine w_iconst (v := 2) X103 hx (hb hby at_118) (pc' := 119) rfl rfl ?_
      refine w_iload X103 hx (hb hby at_119) (pc' := 121) rfl rfl ?_
      refine w_iadd X103 hx (hb hby at_121) (pc' := 122) rfl ?_
      rw [show ((2 : Int32) + (0 : Int32)) = (2 : Int32) from by decide]
      have f109 := f105.keep K103 nin0
      refine w_callS (argsL := [(.ref b103), (.ref b74), (.int (2 : Int32)), (.int (2 : Int32))]) (rest := []) X103 hx hZ hown rfl (rm7 l Z a0 hw b103 b74 (2 : Int32) (2 : Int32) T103.heap n0 [] [v71.toInt8.toInt32, (0 : Int32), x2.toInt8.toInt32, (jushr x2 (8 : Int32)).toInt8.toInt32, (jushr x2 (16 : Int32)).toInt8.toInt32, (jushr x2 (24 : Int32)).toInt8.toInt32] V103 f109 (own_okl (f := 2) (n := 0) rfl rfl (by decide))) (hw _ (List.mem_of_getElem? (i := 41) rfl)) (hw _ (List.mem_of_getElem? (i := 42) rfl)) (hw _ (List.mem_of_getElem? (i := 3) rfl)) (hw _ (List.mem_of_getElem? (i := 43) rfl)) (by decide) (by decide) (W := 0) (by decide) (by decide) (by decide) (by rw [hml]; rfl) (lenOf pd_3 rfl) (Nat.le_refl _) rfl (hb hby at_122) (pc' := 125) rfl (fun T108 L108 v108 X108 hQ108 => ?_)
      obtain ⟨rfl, N108q, e108⟩ := hQ108
      have N108 := Fr.app N103 N108q
      have X108 : Stand p l e room_1 s m _ below meth c T108 _ 6 30 := X108
      show Go p e below s room_1.cells room_1.slots (QL (some (.int 1)) n0) T108 (mkF m 125 #[.val (.int x0), .val (.int x1), .val (.int x2), .val (.int v71), .val (.int (0 : Int32)), .val (.ref b73), .val (.ref b74), .val (.ref b79), .val (.ref b83), .val (.ref b91)] [(.int (K7_0 [] [v71.toInt8.toInt32, (0 : Int32), x2.toInt8.toInt32, (jushr x2 (8 : Int32)).toInt8.toInt32, (jushr x2 (16 : Int32)).toInt8.toInt32, (jushr x2 (24 : Int32)).toInt8.toInt32] (2 : Int32) (2 : Int32)))])
      have hf125 : ¬ ((K7_0 [] [v71.toInt8.toInt32, (0 : Int32), x2.toInt8.toInt32, (jushr x2 (8 : Int32)).toInt8.toInt32, (jushr x2 (16 : Int32)).toInt8.toInt32, (jushr x2 (24 : Int32)).toInt8.toInt32] (2 : Int32) (2 : Int32)) = (0 : Int32)) := (by have hs := own_sl (gs := []) (es := [v71.toInt8.toInt32, (0 : Int32), x2.toInt8.toInt32, (jushr x2 (8 : Int32)).toInt8.toInt32, (jushr x2 (16 : Int32)).toInt8.toInt32, (jushr x2 (24 : Int32)).toInt8.toInt32]) (f := 2) (n := 0) rfl (by decide) (fun i hi => absurd hi (by omega)); intro hq; exact absurd (hs.symm.trans hq) (by decide))
      refine w_if_eq X108 hx (hb hby at_125) (pf := 128) (pt := 151) rfl (by decide) (by decide) (fun hc => absurd hc hf125) (fun hc125 => ?_)
      refine w_aload X108 hx (hb hby at_128) (pc' := 130) rfl rfl rfl ?_
      have f111 := Finputo_91.keep K103 nin0
      have f112 := Fop_91.keep K103 nin0
      have f113 := Fendo_91.keep K103 nin0
      have f114 := f104.keep K103 nin0
      have f115 := f106.keep K103
      have f116 := f107.keep K103 nin0
      have f117 := E91.keep K103
      refine w_callV (argsL := []) (rest := []) (a := b79) X108 hx hZ hown e108 f115 (rm5 l Z a0 hw b79 T103.heap n0 zn103 b73 [v71.toInt8.toInt32, (0 : Int32), x2.toInt8.toInt32, (jushr x2 (8 : Int32)).toInt8.toInt32, (jushr x2 (16 : Int32)).toInt8.toInt32, (jushr x2 (24 : Int32)).toInt8.toInt32] 2 6 f111 f112 f113 f114 (own_fit6 (fits_nar_byte _) (by decide) (fits_nar_byte _) (fits_nar_byte _) (fits_nar_byte _) (fits_nar_byte _)) (by decide) (by show 2 ≤ 6; decide) (by decide) (by decide)) (hw _ (List.mem_of_getElem? (i := 23) rfl)) (hw _ (List.mem_of_getElem? (i := 24) rfl)) (hw _ (List.mem_of_getElem? (i := 26) rfl)) (hw _ (List.mem_of_getElem? (i := 25) rfl)) (hw _ (List.mem_of_getElem? (i := 7) rfl)) (hw _ (List.mem_of_getElem? (i := 27) rfl)) (by decide) (by decide) (W := 0) (by decide) (by decide) (by decide) (by rw [hml]; rfl) (lenOf pd_6 rfl) (Nat.le_refl _) rfl (hb hby at_130) (pc' := 133) rfl (fun T110 L110 v110 X110 hQ110 => ?_)
      obtain ⟨b110, rfl, N110q, K110, sz110, V110⟩ := hQ110
      have zn110 : n0 ≤ T110.heap.size := Nat.le_trans zn103 K110.1
      have g_b110 : n0 ≤ b110 := Nat.le_trans zn103 sz110
      have ne_b73_b110 : b73 ≠ b110 := Nat.ne_of_lt (Nat.lt_of_lt_of_le f114.lt sz110)
      have ne_b74_b110 : b74 ≠ b110 := Nat.ne_of_lt (Nat.lt_of_lt_of_le f109.lt sz110)
      have ne_b79_b110 : b79 ≠ b110 := Nat.ne_of_lt (Nat.lt_of_lt_of_le f115.lt sz110)
      have ne_b83_b110 : b83 ≠ b110 := Nat.ne_of_lt (Nat.lt_of_lt_of_le f116.lt sz110)
      have ne_b91_b110 : b91 ≠ b110 := Nat.ne_of_lt (Nat.lt_of_lt_of_le f117.lt sz110)
      have ne_b103_b110 : b103 ≠ b110 := Nat.ne_of_lt (Nat.lt_of_lt_of_le V103.lt sz110)
      have N110 := Fr.app N108 N110q
      have X110 : Stand p l e room_1 s m _ below meth c T110 _ 7 36 := X110
      have V110 : AI Z T110.heap b110 .byte [x2.toInt8.toInt32, (jushr x2 (8 : Int32)).toInt8.toInt32, (jushr x2 (16 : Int32)).toInt8.toInt32, (jushr x2 (24 : Int32)).toInt8.toInt32] := V110
      show Go p e below s room_1.cells room_1.slots (QL (some (.int 1)) n0) T110 (mkF m 133 #[.val (.int x0), .val (.int x1), .val (.int x2), .val (.int v71), .val (.int (0 : Int32)), .val (.ref b73), .val (.ref b74), .val (.ref b79), .val (.ref b83), .val (.ref b91)] [(.ref b110)])
      refine w_aload X110 hx (hb hby at_133) (pc' := 135) rfl rfl rfl ?_
      refine w_iconst (v := 2) X110 hx (hb hby at_135) (pc' := 136) rfl rfl ?_
      refine w_iload X110 hx (hb hby at_136) (pc' := 138) rfl rfl ?_
      refine w_iadd X110 hx (hb hby at_138) (pc' := 139) rfl ?_
      rw [show ((2 : Int32) + (0 : Int32)) = (2 : Int32) from by decide]
      refine w_bipush (v := 6) X110 hx (hb hby at_139) (pc' := 141) rfl rfl ?_
      have f119 := f109.keep K110 nin0
      refine w_callS (argsL := [(.ref b110), (.ref b74), (.int (2 : Int32)), (.int (6 : Int32))]) (rest := []) X110 hx hZ hown rfl (rm7 l Z a0 hw b110 b74 (2 : Int32) (6 : Int32) T110.heap n0 [x2.toInt8.toInt32, (jushr x2 (8 : Int32)).toInt8.toInt32, (jushr x2 (16 : Int32)).toInt8.toInt32, (jushr x2 (24 : Int32)).toInt8.toInt32] [v71.toInt8.toInt32, (0 : Int32), x2.toInt8.toInt32, (jushr x2 (8 : Int32)).toInt8.toInt32, (jushr x2 (16 : Int32)).toInt8.toInt32, (jushr x2 (24 : Int32)).toInt8.toInt32] V110 f119 (own_okl (f := 2) (n := 4) rfl rfl (by decide))) (hw _ (List.mem_of_getElem? (i := 41) rfl)) (hw _ (List.mem_of_getElem? (i := 42) rfl)) (hw _ (List.mem_of_getElem? (i := 3) rfl)) (hw _ (List.mem_of_getElem? (i := 43) rfl)) (by decide) (by decide) (W := 0) (by decide) (by decide) (by decide) (by rw [hml]; rfl) (lenOf pd_3 rfl) (Nat.le_refl _) rfl (hb hby at_141) (pc' := 144) rfl (fun T118 L118 v118 X118 hQ118 => ?_)
      obtain ⟨rfl, N118q, e118⟩ := hQ118
      have N118 := Fr.app N110 N118q
      have X118 : Stand p l e room_1 s m _ below meth c T118 _ 7 36 := X118
      show Go p e below s room_1.cells room_1.slots (QL (some (.int 1)) n0) T118 (mkF m 144 #[.val (.int x0), .val (.int x1), .val (.int x2), .val (.int v71), .val (.int (0 : Int32)), .val (.ref b73), .val (.ref b74), .val (.ref b79), .val (.ref b83), .val (.ref b91)] [(.int (K7_0 [x2.toInt8.toInt32, (jushr x2 (8 : Int32)).toInt8.toInt32, (jushr x2 (16 : Int32)).toInt8.toInt32, (jushr x2 (24 : Int32)).toInt8.toInt32] [v71.toInt8.toInt32, (0 : Int32), x2.toInt8.toInt32, (jushr x2 (8 : Int32)).toInt8.toInt32, (jushr x2 (16 : Int32)).toInt8.toInt32, (jushr x2 (24 : Int32)).toInt8.toInt32] (2 : Int32) (6 : Int32)))])
      have hf144 : ¬ ((K7_0 [x2.toInt8.toInt32, (jushr x2 (8 : Int32)).toInt8.toInt32, (jushr x2 (16 : Int32)).toInt8.toInt32, (jushr x2 (24 : Int32)).toInt8.toInt32] [v71.toInt8.toInt32, (0 : Int32), x2.toInt8.toInt32, (jushr x2 (8 : Int32)).toInt8.toInt32, (jushr x2 (16 : Int32)).toInt8.toInt32, (jushr x2 (24 : Int32)).toInt8.toInt32] (2 : Int32) (6 : Int32)) = (0 : Int32)) := (by have hs := own_sl (gs := [x2.toInt8.toInt32, (jushr x2 (8 : Int32)).toInt8.toInt32, (jushr x2 (16 : Int32)).toInt8.toInt32, (jushr x2 (24 : Int32)).toInt8.toInt32]) (es := [v71.toInt8.toInt32, (0 : Int32), x2.toInt8.toInt32, (jushr x2 (8 : Int32)).toInt8.toInt32, (jushr x2 (16 : Int32)).toInt8.toInt32, (jushr x2 (24 : Int32)).toInt8.toInt32]) (f := 2) (n := 4) rfl (by decide) (by intro i hi; have hq : i = 0 ∨ i = 1 ∨ i = 2 ∨ i = 3 := (by omega); rcases hq with rfl | rfl | rfl | rfl <;> rfl); intro hq; exact absurd (hs.symm.trans hq) (by decide))
      refine w_if_eq X118 hx (hb hby at_144) (pf := 147) (pt := 151) rfl (by decide) (by decide) (fun hc => absurd hc hf144) (fun hc144 => ?_)
      refine w_iconst (v := 1) X118 hx (hb hby at_147) (pc' := 148) rfl rfl ?_
      refine w_goto X118 hx (hb hby at_148) (pc' := 152) (by decide) (by decide) ?_
      exact w_retZ X118 hx hret hlk (hb hby at_152) (by decide) (by decide) ⟨rfl, N118⟩
    · refine w_bipush (v := 6) X hx (hb hby at_29) (pc' := 31) rfl rfl ?_
      refine w_newB X hx hZ (cap := 6) e0 (hw _ (List.mem_of_getElem? (i := 0) rfl)) (by decide) (by decide) (by decide) (by decide) (by decide) (hb hby at_31) (pc' := 33) rfl (fun T120 h120 b120 X120 e120 E120 q120 V120 => ?_)
      have g_b120 : n0 ≤ b120 := by rw [q120]; exact Z0
      have V120 : AI Z h120 b120 .byte [(0 : Int32), (0 : Int32), (0 : Int32), (0 : Int32), (0 : Int32), (0 : Int32)] := V120
      have zn120 : n0 ≤ h120.size := Nat.le_trans Z0 E120.1
      refine w_astore (Ls' := #[.val (.int x0), .val (.int x1), .val (.int x2), .val (.int v71), .val (.int (1 : Int32)), .val (.ref b120), .unset, .unset, .unset, .unset]) X120 hx (hb hby at_33) (pc' := 35) rfl rfl rfl ?_
      refine w_bipush (v := 6) X120 hx (hb hby at_35) (pc' := 37) rfl rfl ?_
      refine w_newB X120 hx hZ (cap := 6) e120 (hw _ (List.mem_of_getElem? (i := 0) rfl)) (by decide) (by decide) (by decide) (by decide) (by decide) (hb hby at_37) (pc' := 39) rfl (fun T121 h121 b121 X121 e121 E121 q121 V121 => ?_)
      have g_b121 : n0 ≤ b121 := by rw [q121]; exact zn120
      have ne_b120_b121 : b120 ≠ b121 := by rw [q121]; exact Nat.ne_of_lt V120.lt
      have V121 : AI Z h121 b121 .byte [(0 : Int32), (0 : Int32), (0 : Int32), (0 : Int32), (0 : Int32), (0 : Int32)] := V121
      have zn121 : n0 ≤ h121.size := Nat.le_trans zn120 E121.1
      refine w_astore (Ls' := #[.val (.int x0), .val (.int x1), .val (.int x2), .val (.int v71), .val (.int (1 : Int32)), .val (.ref b120), .val (.ref b121), .unset, .unset, .unset]) X121 hx (hb hby at_39) (pc' := 41) rfl rfl rfl ?_
      refine w_aload X121 hx (hb hby at_41) (pc' := 43) rfl rfl rfl ?_
      refine w_iloadN X121 hx (hb hby at_43) (pc' := 44) rfl rfl ?_
      refine w_iload X121 hx (hb hby at_44) (pc' := 46) rfl rfl ?_
      refine w_iloadN X121 hx (hb hby at_46) (pc' := 47) rfl rfl ?_
      have f123 := V120.ext E121
      refine w_callS (argsL := [(.ref b120), (.int v71), (.int (1 : Int32)), (.int x2)]) (rest := []) X121 hx hZ hown e121 (rm1 l Z a0 hw b120 v71 (1 : Int32) x2 h121 n0 zn121 (0 : Int32) (0 : Int32) (0 : Int32) (0 : Int32) (0 : Int32) (0 : Int32) g_b120 f123) (hw _ (List.mem_of_getElem? (i := 1) rfl)) (hw _ (List.mem_of_getElem? (i := 2) rfl)) (hw _ (List.mem_of_getElem? (i := 3) rfl)) (hw _ (List.mem_of_getElem? (i := 4) rfl)) (by decide) (by decide) (W := 0) (by decide) (by decide) (by decide) (by rw [hml]; rfl) (lenOf pd_4 rfl) (Nat.le_refl _) rfl (hb hby at_47) (pc' := 50) rfl (fun T122 L122 v122 X122 hQ122 => ?_)
      obtain ⟨rfl, N122q, K122, V122⟩ := hQ122
      have zn122 : n0 ≤ T122.heap.size := Nat.le_trans zn121 K122.1
      have N122 := Fr.app N0 N122q
      have X122 : Stand p l e room_1 s m _ below meth c T122 _ 2 12 := X122
      rw [show (1 : Int32).toInt8.toInt32 = (1 : Int32) from by decide] at V122
      show Go p e below s room_1.cells room_1.slots (QL (some (.int 1)) n0) T122 (mkF m 50 #[.val (.int x0), .val (.int x1), .val (.int x2), .val (.int v71), .val (.int (1 : Int32)), .val (.ref b120), .val (.ref b121), .unset, .unset, .unset] [])
      refine w_aload X122 hx (hb hby at_50) (pc' := 52) rfl rfl rfl ?_
      refine w_iloadN X122 hx (hb hby at_52) (pc' := 53) rfl rfl ?_
      refine w_iload X122 hx (hb hby at_53) (pc' := 55) rfl rfl ?_
      refine w_iloadN X122 hx (hb hby at_55) (pc' := 56) rfl rfl ?_
      have f125 := V121.keep K122 (ninS (Ne.symm ne_b120_b121) nin0)
      refine w_callS (argsL := [(.ref b121), (.int v71), (.int (1 : Int32)), (.int x2)]) (rest := []) X122 hx hZ hown rfl (rm1 l Z a0 hw b121 v71 (1 : Int32) x2 T122.heap n0 zn122 (0 : Int32) (0 : Int32) (0 : Int32) (0 : Int32) (0 : Int32) (0 : Int32) g_b121 f125) (hw _ (List.mem_of_getElem? (i := 1) rfl)) (hw _ (List.mem_of_getElem? (i := 2) rfl)) (hw _ (List.mem_of_getElem? (i := 3) rfl)) (hw _ (List.mem_of_getElem? (i := 4) rfl)) (by decide) (by decide) (W := 0) (by decide) (by decide) (by decide) (by rw [hml]; rfl) (lenOf pd_4 rfl) (Nat.le_refl _) rfl (hb hby at_56) (pc' := 59) rfl (fun T124 L124 v124 X124 hQ124 => ?_)
      obtain ⟨rfl, N124q, K124, V124⟩ := hQ124
      have zn124 : n0 ≤ T124.heap.size := Nat.le_trans zn122 K124.1
      have N124 := Fr.app N122 N124q
      have X124 : Stand p l e room_1 s m _ below meth c T124 _ 2 12 := X124
      rw [show (1 : Int32).toInt8.toInt32 = (1 : Int32) from by decide] at V124
      show Go p e below s room_1.cells room_1.slots (QL (some (.int 1)) n0) T124 (mkF m 59 #[.val (.int x0), .val (.int x1), .val (.int x2), .val (.int v71), .val (.int (1 : Int32)), .val (.ref b120), .val (.ref b121), .unset, .unset, .unset] [])
      refine w_newO X124 hx hZ hown rfl (hw _ (List.mem_of_getElem? (i := 5) rfl)) (hw _ (List.mem_of_getElem? (i := 6) rfl)) (hw _ (List.mem_of_getElem? (i := 7) rfl)) (hb hby at_59) (by decide) (by decide) (pc' := 62) rfl (fun T126 h126 b126 X126 e126 E126 q126 A126 D126 => ?_)
      have g_b126 : n0 ≤ b126 := by rw [q126]; exact zn124
      have f127 := V122.keep K124 (ninS ne_b120_b121 nin0)
      have ne_b120_b126 : b120 ≠ b126 := by rw [q126]; exact Nat.ne_of_lt f127.lt
      have ne_b121_b126 : b121 ≠ b126 := by rw [q126]; exact Nat.ne_of_lt V124.lt
      have F_input_b126 : Fld Z h126 b126 "com/example/inwrap/inwrap/DerReader" "input" "[B" .null := D126 (Or.inr (hw _ (List.mem_of_getElem? (i := 18) rfl))) (ty := (.array .byte)) (by decide)
      have F_position_b126 : Fld Z h126 b126 "com/example/inwrap/inwrap/DerReader" "position" "I" (.int (0 : Int32)) := D126 (Or.inl (hw _ (List.mem_of_getElem? (i := 20) rfl))) (ty := .int) (by decide)
      have F_end_b126 : Fld Z h126 b126 "com/example/inwrap/inwrap/DerReader" "end" "I" (.int (0 : Int32)) := D126 (Or.inr (hw _ (List.mem_of_getElem? (i := 22) rfl))) (ty := .int) (by decide)
      have zn126 : n0 ≤ h126.size := Nat.le_trans zn124 E126.1
      refine w_dup X126 hx (hb hby at_62) (pc' := 63) rfl rfl ?_
      refine w_aload X126 hx (hb hby at_63) (pc' := 65) rfl rfl rfl ?_
      have f129 := f127.ext E126
      refine w_callI (argsL := [(.ref b120)]) (rest := [(.ref b126)]) (a := b126) X126 hx hZ hown e126 (rm2 l Z a0 hw b126 b120 h126 n0 zn126 A126 g_b126 F_input_b126 F_position_b126 F_end_b126 v71.toInt8.toInt32 (1 : Int32) x2.toInt8.toInt32 (jushr x2 (8 : Int32)).toInt8.toInt32 (jushr x2 (16 : Int32)).toInt8.toInt32 (jushr x2 (24 : Int32)).toInt8.toInt32 f129 ne_b120_b126) rfl (hw _ (List.mem_of_getElem? (i := 8) rfl)) (hw _ (List.mem_of_getElem? (i := 9) rfl)) (hw _ (List.mem_of_getElem? (i := 7) rfl)) (hw _ (List.mem_of_getElem? (i := 10) rfl)) (by decide) (by decide) (W := 1) (by decide) (by decide) (by decide) (by rw [hml]; rfl) (lenOf pd_5 rfl) (Nat.le_refl _) rfl (hb hby at_65) (pc' := 68) rfl (fun T128 L128 v128 X128 hQ128 => ?_)
      obtain ⟨rfl, N128q, K128, F_input_128, F_position_128, F_end_128⟩ := hQ128
      have zn128 : n0 ≤ T128.heap.size := Nat.le_trans zn126 K128.1
      have N128 := Fr.app N124 N128q
      have X128 : Stand p l e room_1 s m _ below meth c T128 _ 3 15 := X128
      show Go p e below s room_1.cells room_1.slots (QL (some (.int 1)) n0) T128 (mkF m 68 #[.val (.int x0), .val (.int x1), .val (.int x2), .val (.int v71), .val (.int (1 : Int32)), .val (.ref b120), .val (.ref b121), .unset, .unset, .unset] [(.ref b126)])
      refine w_astore (Ls' := #[.val (.int x0), .val (.int x1), .val (.int x2), .val (.int v71), .val (.int (1 : Int32)), .val (.ref b120), .val (.ref b121), .val (.ref b126), .unset, .unset]) X128 hx (hb hby at_68) (pc' := 70) rfl rfl rfl ?_
      refine w_aload X128 hx (hb hby at_70) (pc' := 72) rfl rfl rfl ?_
      have f131 := f129.keep K128 (ninS ne_b120_b126 nin0)
      have f132 := V124.ext E126
      have f133 := f132.keep K128 (ninS ne_b121_b126 nin0)
      have f134 := A126.keep K128
      refine w_callV (argsL := []) (rest := []) (a := b126) X128 hx hZ hown rfl f134 (rm5 l Z a0 hw b126 T128.heap n0 zn128 b120 [v71.toInt8.toInt32, (1 : Int32), x2.toInt8.toInt32, (jushr x2 (8 : Int32)).toInt8.toInt32, (jushr x2 (16 : Int32)).toInt8.toInt32, (jushr x2 (24 : Int32)).toInt8.toInt32] 0 6 F_input_128 F_position_128 F_end_128 f131 (own_fit6 (fits_nar_byte _) (by decide) (fits_nar_byte _) (fits_nar_byte _) (fits_nar_byte _) (fits_nar_byte _)) (by decide) (by show 0 ≤ 6; decide) (by decide) (by decide)) (hw _ (List.mem_of_getElem? (i := 23) rfl)) (hw _ (List.mem_of_getElem? (i := 24) rfl)) (hw _ (List.mem_of_getElem? (i := 26) rfl)) (hw _ (List.mem_of_getElem? (i := 25) rfl)) (hw _ (List.mem_of_getElem? (i := 7) rfl)) (hw _ (List.mem_of_getElem? (i := 27) rfl)) (by decide) (by decide) (W := 0) (by decide) (by decide) (by decide) (by rw [hml]; rfl) (lenOf pd_6 rfl) (Nat.le_refl _) rfl (hb hby at_72) (pc' := 75) rfl (fun T130 L130 v130 X130 hQ130 => ?_)
      obtain ⟨b130, rfl, N130q, K130, sz130, V130⟩ := hQ130
      have zn130 : n0 ≤ T130.heap.size := Nat.le_trans zn128 K130.1
      have g_b130 : n0 ≤ b130 := Nat.le_trans zn128 sz130
      have ne_b120_b130 : b120 ≠ b130 := Nat.ne_of_lt (Nat.lt_of_lt_of_le f131.lt sz130)
      have ne_b121_b130 : b121 ≠ b130 := Nat.ne_of_lt (Nat.lt_of_lt_of_le f133.lt sz130)
      have ne_b126_b130 : b126 ≠ b130 := Nat.ne_of_lt (Nat.lt_of_lt_of_le f134.lt sz130)
      have N130 := Fr.app N128 N130q
      have X130 : Stand p l e room_1 s m _ below meth c T130 _ 4 21 := X130
      have V130 : AI Z T130.heap b130 .byte [v71.toInt8.toInt32, (1 : Int32), x2.toInt8.toInt32, (jushr x2 (8 : Int32)).toInt8.toInt32, (jushr x2 (16 : Int32)).toInt8.toInt32, (jushr x2 (24 : Int32)).toInt8.toInt32] := V130
      show Go p e below s room_1.cells room_1.slots (QL (some (.int 1)) n0) T130 (mkF m 75 #[.val (.int x0), .val (.int x1), .val (.int x2), .val (.int v71), .val (.int (1 : Int32)), .val (.ref b120), .val (.ref b121), .val (.ref b126), .unset, .unset] [(.ref b130)])
      refine w_astore (Ls' := #[.val (.int x0), .val (.int x1), .val (.int x2), .val (.int v71), .val (.int (1 : Int32)), .val (.ref b120), .val (.ref b121), .val (.ref b126), .val (.ref b130), .unset]) X130 hx (hb hby at_75) (pc' := 77) rfl rfl rfl ?_
      refine w_aload X130 hx (hb hby at_77) (pc' := 79) rfl rfl rfl ?_
      refine w_aload X130 hx (hb hby at_79) (pc' := 81) rfl rfl rfl ?_
      refine w_iconst (v := 0) X130 hx (hb hby at_81) (pc' := 82) rfl rfl ?_
      refine w_bipush (v := 6) X130 hx (hb hby at_82) (pc' := 84) rfl rfl ?_
      have f136 := f133.keep K130 nin0
      refine w_callS (argsL := [(.ref b130), (.ref b121), (.int (0 : Int32)), (.int (6 : Int32))]) (rest := []) X130 hx hZ hown rfl (rm7 l Z a0 hw b130 b121 (0 : Int32) (6 : Int32) T130.heap n0 [v71.toInt8.toInt32, (1 : Int32), x2.toInt8.toInt32, (jushr x2 (8 : Int32)).toInt8.toInt32, (jushr x2 (16 : Int32)).toInt8.toInt32, (jushr x2 (24 : Int32)).toInt8.toInt32] [v71.toInt8.toInt32, (1 : Int32), x2.toInt8.toInt32, (jushr x2 (8 : Int32)).toInt8.toInt32, (jushr x2 (16 : Int32)).toInt8.toInt32, (jushr x2 (24 : Int32)).toInt8.toInt32] V130 f136 (own_okl (f := 0) (n := 6) rfl rfl (by decide))) (hw _ (List.mem_of_getElem? (i := 41) rfl)) (hw _ (List.mem_of_getElem? (i := 42) rfl)) (hw _ (List.mem_of_getElem? (i := 3) rfl)) (hw _ (List.mem_of_getElem? (i := 43) rfl)) (by decide) (by decide) (W := 0) (by decide) (by decide) (by decide) (by rw [hml]; rfl) (lenOf pd_3 rfl) (Nat.le_refl _) rfl (hb hby at_84) (pc' := 87) rfl (fun T135 L135 v135 X135 hQ135 => ?_)
      obtain ⟨rfl, N135q, e135⟩ := hQ135
      have N135 := Fr.app N130 N135q
      have X135 : Stand p l e room_1 s m _ below meth c T135 _ 4 21 := X135
      show Go p e below s room_1.cells room_1.slots (QL (some (.int 1)) n0) T135 (mkF m 87 #[.val (.int x0), .val (.int x1), .val (.int x2), .val (.int v71), .val (.int (1 : Int32)), .val (.ref b120), .val (.ref b121), .val (.ref b126), .val (.ref b130), .unset] [(.int (K7_0 [v71.toInt8.toInt32, (1 : Int32), x2.toInt8.toInt32, (jushr x2 (8 : Int32)).toInt8.toInt32, (jushr x2 (16 : Int32)).toInt8.toInt32, (jushr x2 (24 : Int32)).toInt8.toInt32] [v71.toInt8.toInt32, (1 : Int32), x2.toInt8.toInt32, (jushr x2 (8 : Int32)).toInt8.toInt32, (jushr x2 (16 : Int32)).toInt8.toInt32, (jushr x2 (24 : Int32)).toInt8.toInt32] (0 : Int32) (6 : Int32)))])
      have hf87 : ¬ ((K7_0 [v71.toInt8.toInt32, (1 : Int32), x2.toInt8.toInt32, (jushr x2 (8 : Int32)).toInt8.toInt32, (jushr x2 (16 : Int32)).toInt8.toInt32, (jushr x2 (24 : Int32)).toInt8.toInt32] [v71.toInt8.toInt32, (1 : Int32), x2.toInt8.toInt32, (jushr x2 (8 : Int32)).toInt8.toInt32, (jushr x2 (16 : Int32)).toInt8.toInt32, (jushr x2 (24 : Int32)).toInt8.toInt32] (0 : Int32) (6 : Int32)) = (0 : Int32)) := (by have hs := own_sl (gs := [v71.toInt8.toInt32, (1 : Int32), x2.toInt8.toInt32, (jushr x2 (8 : Int32)).toInt8.toInt32, (jushr x2 (16 : Int32)).toInt8.toInt32, (jushr x2 (24 : Int32)).toInt8.toInt32]) (es := [v71.toInt8.toInt32, (1 : Int32), x2.toInt8.toInt32, (jushr x2 (8 : Int32)).toInt8.toInt32, (jushr x2 (16 : Int32)).toInt8.toInt32, (jushr x2 (24 : Int32)).toInt8.toInt32]) (f := 0) (n := 6) rfl (by decide) (by intro i hi; have hq : i = 0 ∨ i = 1 ∨ i = 2 ∨ i = 3 ∨ i = 4 ∨ i = 5 := (by omega); rcases hq with rfl | rfl | rfl | rfl | rfl | rfl <;> rfl); intro hq; exact absurd (hs.symm.trans hq) (by decide))
      refine w_if_ne X135 hx (hb hby at_87) (pf := 90) (pt := 92) rfl (by decide) (by decide) (fun hc87 => ?_) (fun hc => absurd hc hf87)
      refine w_aload X135 hx (hb hby at_92) (pc' := 94) rfl rfl rfl ?_
      refine w_iconst (v := 5) X135 hx (hb hby at_94) (pc' := 95) rfl rfl ?_
      refine w_aload X135 hx (hb hby at_95) (pc' := 97) rfl rfl rfl ?_
      refine w_iconst (v := 5) X135 hx (hb hby at_97) (pc' := 98) rfl rfl ?_
      refine w_baload X135 hx hZ e135 V130 (v := (jushr x2 (24 : Int32)).toInt8.toInt32) (by decide) rfl (hb hby at_98) (pc' := 99) rfl ?_
      refine w_iconst (v := 1) X135 hx (hb hby at_99) (pc' := 100) rfl rfl ?_
      refine w_ixor X135 hx (hb hby at_100) (pc' := 101) rfl ?_
      refine w_i2b X135 hx (hb hby at_101) (pc' := 102) rfl ?_
      refine w_bastore X135 hx hZ e135 V130 (by decide) (by show _ < 6; decide) (hb hby at_102) (pc' := 103) rfl (fun T137 h137 X137 e137 W137 V137 => ?_)
      have qv137 : (nar .byte ((jushr x2 (24 : Int32)).toInt8.toInt32 ^^^ (1 : Int32)).toInt8.toInt32) = ((jushr x2 (24 : Int32)).toInt8.toInt32 ^^^ (1 : Int32)).toInt8.toInt32 := own_nb _
      rw [qv137] at V137
      have V137 : AI Z h137 b130 .byte [v71.toInt8.toInt32, (1 : Int32), x2.toInt8.toInt32, (jushr x2 (8 : Int32)).toInt8.toInt32, (jushr x2 (16 : Int32)).toInt8.toInt32, ((jushr x2 (24 : Int32)).toInt8.toInt32 ^^^ (1 : Int32)).toInt8.toInt32] := V137
      have N137 := Fr.snoc X137 N135 g_b130
      have zn137 : n0 ≤ h137.size := by rw [W137.size]; exact zn130
      refine w_aload X137 hx (hb hby at_103) (pc' := 105) rfl rfl rfl ?_
      have f139 := f134.keep K130
      have f140 := f139.wr W137
      have f141 := F_input_128.keep K130 nin0
      have f142 := f141.other W137 (Or.inl ne_b126_b130)
      have f143 := F_position_128.keep K130 nin0
      have f144 := f143.other W137 (Or.inl ne_b126_b130)
      have f145 := F_end_128.keep K130 nin0
      have f146 := f145.other W137 (Or.inl ne_b126_b130)
      have f147 := f131.keep K130 nin0
      have f148 := f147.other W137 ne_b120_b130
      have f149 := f136.other W137 ne_b121_b130
      refine w_callV (argsL := []) (rest := []) (a := b126) X137 hx hZ hown e137 f140 (rm9 l Z a0 hw b126 h137 n0 zn137 b120 v71.toInt8.toInt32 (1 : Int32) x2.toInt8.toInt32 (jushr x2 (8 : Int32)).toInt8.toInt32 (jushr x2 (16 : Int32)).toInt8.toInt32 (jushr x2 (24 : Int32)).toInt8.toInt32 f140 g_b126 f142 f144 f146 f148 ne_b120_b126 (own_tag ht1 hv71) (by decide)) (hw _ (List.mem_of_getElem? (i := 47) rfl)) (hw _ (List.mem_of_getElem? (i := 48) rfl)) (hw _ (List.mem_of_getElem? (i := 50) rfl)) (hw _ (List.mem_of_getElem? (i := 49) rfl)) (hw _ (List.mem_of_getElem? (i := 7) rfl)) (hw _ (List.mem_of_getElem? (i := 51) rfl)) (by decide) (by decide) (W := 0) (by decide) (by decide) (by decide) (by rw [hml]; rfl) (lenOf pd_7 rfl) (Nat.le_refl _) rfl (hb hby at_105) (pc' := 108) rfl (fun T138 L138 v138 X138 hQ138 => ?_)
      obtain ⟨b138, rfl, N138q, K138, sz138, E138, Finput_138, Fposition_138, Fend_138, Fop_138, Finputo_138, Fendo_138⟩ := hQ138
      have zn138 : n0 ≤ T138.heap.size := Nat.le_trans zn137 K138.1
      have g_b138 : n0 ≤ b138 := Nat.le_trans zn137 sz138
      have ne_b120_b138 : b120 ≠ b138 := Nat.ne_of_lt (Nat.lt_of_lt_of_le f148.lt sz138)
      have ne_b121_b138 : b121 ≠ b138 := Nat.ne_of_lt (Nat.lt_of_lt_of_le f149.lt sz138)
      have ne_b126_b138 : b126 ≠ b138 := Nat.ne_of_lt (Nat.lt_of_lt_of_le f140.lt sz138)
      have ne_b130_b138 : b130 ≠ b138 := Nat.ne_of_lt (Nat.lt_of_lt_of_le V137.lt sz138)
      have N138 := Fr.app N137 N138q
      have X138 : Stand p l e room_1 s m _ below meth c T138 _ 5 24 := X138
      rw [show ((2 : Int32) + ((1 : Int32) &&& (255 : Int32))) = (3 : Int32) from by decide] at Fend_138 Fop_138
      show Go p e below s room_1.cells room_1.slots (QL (some (.int 1)) n0) T138 (mkF m 108 #[.val (.int x0), .val (.int x1), .val (.int x2), .val (.int v71), .val (.int (1 : Int32)), .val (.ref b120), .val (.ref b121), .val (.ref b126), .val (.ref b130), .unset] [(.ref b138)])
      refine w_astore (Ls' := #[.val (.int x0), .val (.int x1), .val (.int x2), .val (.int v71), .val (.int (1 : Int32)), .val (.ref b120), .val (.ref b121), .val (.ref b126), .val (.ref b130), .val (.ref b138)]) X138 hx (hb hby at_108) (pc' := 110) rfl rfl rfl ?_
      refine w_aload X138 hx (hb hby at_110) (pc' := 112) rfl rfl rfl ?_
      have f151 := f148.keep K138 (ninS ne_b120_b126 nin0)
      have f152 := f149.keep K138 (ninS ne_b121_b126 nin0)
      have f153 := f140.keep K138
      have f154 := V137.keep K138 (ninS (Ne.symm ne_b126_b130) nin0)
      refine w_callV (argsL := []) (rest := []) (a := b138) X138 hx hZ hown rfl E138 (rm5 l Z a0 hw b138 T138.heap n0 zn138 b120 [v71.toInt8.toInt32, (1 : Int32), x2.toInt8.toInt32, (jushr x2 (8 : Int32)).toInt8.toInt32, (jushr x2 (16 : Int32)).toInt8.toInt32, (jushr x2 (24 : Int32)).toInt8.toInt32] 2 3 Finput_138 Fposition_138 Fend_138 f151 (own_fit6 (fits_nar_byte _) (by decide) (fits_nar_byte _) (fits_nar_byte _) (fits_nar_byte _) (fits_nar_byte _)) (by decide) (by show 2 ≤ 6; decide) (by decide) (by decide)) (hw _ (List.mem_of_getElem? (i := 23) rfl)) (hw _ (List.mem_of_getElem? (i := 24) rfl)) (hw _ (List.mem_of_getElem? (i := 26) rfl)) (hw _ (List.mem_of_getElem? (i := 25) rfl)) (hw _ (List.mem_of_getElem? (i := 7) rfl)) (hw _ (List.mem_of_getElem? (i := 27) rfl)) (by decide) (by decide) (W := 0) (by decide) (by decide) (by decide) (by rw [hml]; rfl) (lenOf pd_6 rfl) (Nat.le_refl _) rfl (hb hby at_112) (pc' := 115) rfl (fun T150 L150 v150 X150 hQ150 => ?_)
      obtain ⟨b150, rfl, N150q, K150, sz150, V150⟩ := hQ150
      have zn150 : n0 ≤ T150.heap.size := Nat.le_trans zn138 K150.1
      have g_b150 : n0 ≤ b150 := Nat.le_trans zn138 sz150
      have ne_b120_b150 : b120 ≠ b150 := Nat.ne_of_lt (Nat.lt_of_lt_of_le f151.lt sz150)
      have ne_b121_b150 : b121 ≠ b150 := Nat.ne_of_lt (Nat.lt_of_lt_of_le f152.lt sz150)
      have ne_b126_b150 : b126 ≠ b150 := Nat.ne_of_lt (Nat.lt_of_lt_of_le f153.lt sz150)
      have ne_b130_b150 : b130 ≠ b150 := Nat.ne_of_lt (Nat.lt_of_lt_of_le f154.lt sz150)
      have ne_b138_b150 : b138 ≠ b150 := Nat.ne_of_lt (Nat.lt_of_lt_of_le E138.lt sz150)
      have N150 := Fr.app N138 N150q
      have X150 : Stand p l e room_1 s m _ below meth c T150 _ 6 30 := X150
      have V150 : AI Z T150.heap b150 .byte [x2.toInt8.toInt32] := V150
      show Go p e below s room_1.cells room_1.slots (QL (some (.int 1)) n0) T150 (mkF m 115 #[.val (.int x0), .val (.int x1), .val (.int x2), .val (.int v71), .val (.int (1 : Int32)), .val (.ref b120), .val (.ref b121), .val (.ref b126), .val (.ref b130), .val (.ref b138)] [(.ref b150)])
      refine w_aload X150 hx (hb hby at_115) (pc' := 117) rfl rfl rfl ?_
      refine w_iconst (v := 2) X150 hx (hb hby at_117) (pc' := 118) rfl rfl ?_
      refine w_iconst (v := 2) X150 hx (hb hby at_118) (pc' := 119) rfl rfl ?_
      refine w_iload X150 hx (hb hby at_119) (pc' := 121) rfl rfl ?_
      refine w_iadd X150 hx (hb hby at_121) (pc' := 122) rfl ?_
      rw [show ((2 : Int32) + (1 : Int32)) = (3 : Int32) from by decide]
      have f156 := f152.keep K150 nin0
      refine w_callS (argsL := [(.ref b150), (.ref b121), (.int (2 : Int32)), (.int (3 : Int32))]) (rest := []) X150 hx hZ hown rfl (rm7 l Z a0 hw b150 b121 (2 : Int32) (3 : Int32) T150.heap n0 [x2.toInt8.toInt32] [v71.toInt8.toInt32, (1 : Int32), x2.toInt8.toInt32, (jushr x2 (8 : Int32)).toInt8.toInt32, (jushr x2 (16 : Int32)).toInt8.toInt32, (jushr x2 (24 : Int32)).toInt8.toInt32] V150 f156 (own_okl (f := 2) (n := 1) rfl rfl (by decide))) (hw _ (List.mem_of_getElem? (i := 41) rfl)) (hw _ (List.mem_of_getElem? (i := 42) rfl)) (hw _ (List.mem_of_getElem? (i := 3) rfl)) (hw _ (List.mem_of_getElem? (i := 43) rfl)) (by decide) (by decide) (W := 0) (by decide) (by decide) (by decide) (by rw [hml]; rfl) (lenOf pd_3 rfl) (Nat.le_refl _) rfl (hb hby at_122) (pc' := 125) rfl (fun T155 L155 v155 X155 hQ155 => ?_)
      obtain ⟨rfl, N155q, e155⟩ := hQ155
      have N155 := Fr.app N150 N155q
      have X155 : Stand p l e room_1 s m _ below meth c T155 _ 6 30 := X155
      show Go p e below s room_1.cells room_1.slots (QL (some (.int 1)) n0) T155 (mkF m 125 #[.val (.int x0), .val (.int x1), .val (.int x2), .val (.int v71), .val (.int (1 : Int32)), .val (.ref b120), .val (.ref b121), .val (.ref b126), .val (.ref b130), .val (.ref b138)] [(.int (K7_0 [x2.toInt8.toInt32] [v71.toInt8.toInt32, (1 : Int32), x2.toInt8.toInt32, (jushr x2 (8 : Int32)).toInt8.toInt32, (jushr x2 (16 : Int32)).toInt8.toInt32, (jushr x2 (24 : Int32)).toInt8.toInt32] (2 : Int32) (3 : Int32)))])
      have hf125 : ¬ ((K7_0 [x2.toInt8.toInt32] [v71.toInt8.toInt32, (1 : Int32), x2.toInt8.toInt32, (jushr x2 (8 : Int32)).toInt8.toInt32, (jushr x2 (16 : Int32)).toInt8.toInt32, (jushr x2 (24 : Int32)).toInt8.toInt32] (2 : Int32) (3 : Int32)) = (0 : Int32)) := (by have hs := own_sl (gs := [x2.toInt8.toInt32]) (es := [v71.toInt8.toInt32, (1 : Int32), x2.toInt8.toInt32, (jushr x2 (8 : Int32)).toInt8.toInt32, (jushr x2 (16 : Int32)).toInt8.toInt32, (jushr x2 (24 : Int32)).toInt8.toInt32]) (f := 2) (n := 1) rfl (by decide) (by intro i hi; have hq : i = 0 := (by omega); subst hq; rfl); intro hq; exact absurd (hs.symm.trans hq) (by decide))
      refine w_if_eq X155 hx (hb hby at_125) (pf := 128) (pt := 151) rfl (by decide) (by decide) (fun hc => absurd hc hf125) (fun hc125 => ?_)
      refine w_aload X155 hx (hb hby at_128) (pc' := 130) rfl rfl rfl ?_
      have f158 := Finputo_138.keep K150 nin0
      have f159 := Fop_138.keep K150 nin0
      have f160 := Fendo_138.keep K150 nin0
      have f161 := f151.keep K150 nin0
      have f162 := f153.keep K150
      have f163 := f154.keep K150 nin0
      have f164 := E138.keep K150
      refine w_callV (argsL := []) (rest := []) (a := b126) X155 hx hZ hown e155 f162 (rm5 l Z a0 hw b126 T150.heap n0 zn150 b120 [v71.toInt8.toInt32, (1 : Int32), x2.toInt8.toInt32, (jushr x2 (8 : Int32)).toInt8.toInt32, (jushr x2 (16 : Int32)).toInt8.toInt32, (jushr x2 (24 : Int32)).toInt8.toInt32] 3 6 f158 f159 f160 f161 (own_fit6 (fits_nar_byte _) (by decide) (fits_nar_byte _) (fits_nar_byte _) (fits_nar_byte _) (fits_nar_byte _)) (by decide) (by show 3 ≤ 6; decide) (by decide) (by decide)) (hw _ (List.mem_of_getElem? (i := 23) rfl)) (hw _ (List.mem_of_getElem? (i := 24) rfl)) (hw _ (List.mem_of_getElem? (i := 26) rfl)) (hw _ (List.mem_of_getElem? (i := 25) rfl)) (hw _ (List.mem_of_getElem? (i := 7) rfl)) (hw _ (List.mem_of_getElem? (i := 27) rfl)) (by decide) (by decide) (W := 0) (by decide) (by decide) (by decide) (by rw [hml]; rfl) (lenOf pd_6 rfl) (Nat.le_refl _) rfl (hb hby at_130) (pc' := 133) rfl (fun T157 L157 v157 X157 hQ157 => ?_)
      obtain ⟨b157, rfl, N157q, K157, sz157, V157⟩ := hQ157
      have zn157 : n0 ≤ T157.heap.size := Nat.le_trans zn150 K157.1
      have g_b157 : n0 ≤ b157 := Nat.le_trans zn150 sz157
      have ne_b120_b157 : b120 ≠ b157 := Nat.ne_of_lt (Nat.lt_of_lt_of_le f161.lt sz157)
      have ne_b121_b157 : b121 ≠ b157 := Nat.ne_of_lt (Nat.lt_of_lt_of_le f156.lt sz157)
      have ne_b126_b157 : b126 ≠ b157 := Nat.ne_of_lt (Nat.lt_of_lt_of_le f162.lt sz157)
      have ne_b130_b157 : b130 ≠ b157 := Nat.ne_of_lt (Nat.lt_of_lt_of_le f163.lt sz157)
      have ne_b138_b157 : b138 ≠ b157 := Nat.ne_of_lt (Nat.lt_of_lt_of_le f164.lt sz157)
      have ne_b150_b157 : b150 ≠ b157 := Nat.ne_of_lt (Nat.lt_of_lt_of_le V150.lt sz157)
      have N157 := Fr.app N155 N157q
      have X157 : Stand p l e room_1 s m _ below meth c T157 _ 7 36 := X157
      have V157 : AI Z T157.heap b157 .byte [(jushr x2 (8 : Int32)).toInt8.toInt32, (jushr x2 (16 : Int32)).toInt8.toInt32, (jushr x2 (24 : Int32)).toInt8.toInt32] := V157
      show Go p e below s room_1.cells room_1.slots (QL (some (.int 1)) n0) T157 (mkF m 133 #[.val (.int x0), .val (.int x1), .val (.int x2), .val (.int v71), .val (.int (1 : Int32)), .val (.ref b120), .val (.ref b121), .val (.ref b126), .val (.ref b130), .val (.ref b138)] [(.ref b157)])
      refine w_aload X157 hx (hb hby at_133) (pc' := 135) rfl rfl rfl ?_
      refine w_iconst (v := 2) X157 hx (hb hby at_135) (pc' := 136) rfl rfl ?_
      refine w_iload X157 hx (hb hby at_136) (pc' := 138) rfl rfl ?_
      refine w_iadd X157 hx (hb hby at_138) (pc' := 139) rfl ?_
      rw [show ((2 : Int32) + (1 : Int32)) = (3 : Int32) from by decide]
      refine w_bipush (v := 6) X157 hx (hb hby at_139) (pc' := 141) rfl rfl ?_
      have f166 := f156.keep K157 nin0
      refine w_callS (argsL := [(.ref b157), (.ref b121), (.int (3 : Int32)), (.int (6 : Int32))]) (rest := []) X157 hx hZ hown rfl (rm7 l Z a0 hw b157 b121 (3 : Int32) (6 : Int32) T157.heap n0 [(jushr x2 (8 : Int32)).toInt8.toInt32, (jushr x2 (16 : Int32)).toInt8.toInt32, (jushr x2 (24 : Int32)).toInt8.toInt32] [v71.toInt8.toInt32, (1 : Int32), x2.toInt8.toInt32, (jushr x2 (8 : Int32)).toInt8.toInt32, (jushr x2 (16 : Int32)).toInt8.toInt32, (jushr x2 (24 : Int32)).toInt8.toInt32] V157 f166 (own_okl (f := 3) (n := 3) rfl rfl (by decide))) (hw _ (List.mem_of_getElem? (i := 41) rfl)) (hw _ (List.mem_of_getElem? (i := 42) rfl)) (hw _ (List.mem_of_getElem? (i := 3) rfl)) (hw _ (List.mem_of_getElem? (i := 43) rfl)) (by decide) (by decide) (W := 0) (by decide) (by decide) (by decide) (by rw [hml]; rfl) (lenOf pd_3 rfl) (Nat.le_refl _) rfl (hb hby at_141) (pc' := 144) rfl (fun T165 L165 v165 X165 hQ165 => ?_)
      obtain ⟨rfl, N165q, e165⟩ := hQ165
      have N165 := Fr.app N157 N165q
      have X165 : Stand p l e room_1 s m _ below meth c T165 _ 7 36 := X165
      show Go p e below s room_1.cells room_1.slots (QL (some (.int 1)) n0) T165 (mkF m 144 #[.val (.int x0), .val (.int x1), .val (.int x2), .val (.int v71), .val (.int (1 : Int32)), .val (.ref b120), .val (.ref b121), .val (.ref b126), .val (.ref b130), .val (.ref b138)] [(.int (K7_0 [(jushr x2 (8 : Int32)).toInt8.toInt32, (jushr x2 (16 : Int32)).toInt8.toInt32, (jushr x2 (24 : Int32)).toInt8.toInt32] [v71.toInt8.toInt32, (1 : Int32), x2.toInt8.toInt32, (jushr x2 (8 : Int32)).toInt8.toInt32, (jushr x2 (16 : Int32)).toInt8.toInt32, (jushr x2 (24 : Int32)).toInt8.toInt32] (3 : Int32) (6 : Int32)))])
      have hf144 : ¬ ((K7_0 [(jushr x2 (8 : Int32)).toInt8.toInt32, (jushr x2 (16 : Int32)).toInt8.toInt32, (jushr x2 (24 : Int32)).toInt8.toInt32] [v71.toInt8.toInt32, (1 : Int32), x2.toInt8.toInt32, (jushr x2 (8 : Int32)).toInt8.toInt32, (jushr x2 (16 : Int32)).toInt8.toInt32, (jushr x2 (24 : Int32)).toInt8.toInt32] (3 : Int32) (6 : Int32)) = (0 : Int32)) := (by have hs := own_sl (gs := [(jushr x2 (8 : Int32)).toInt8.toInt32, (jushr x2 (16 : Int32)).toInt8.toInt32, (jushr x2 (24 : Int32)).toInt8.toInt32]) (es := [v71.toInt8.toInt32, (1 : Int32), x2.toInt8.toInt32, (jushr x2 (8 : Int32)).toInt8.toInt32, (jushr x2 (16 : Int32)).toInt8.toInt32, (jushr x2 (24 : Int32)).toInt8.toInt32]) (f := 3) (n := 3) rfl (by decide) (by intro i hi; have hq : i = 0 ∨ i = 1 ∨ i = 2 := (by omega); rcases hq with rfl | rfl | rfl <;> rfl); intro hq; exact absurd (hs.symm.trans hq) (by decide))
      refine w_if_eq X165 hx (hb hby at_144) (pf := 147) (pt := 151) rfl (by decide) (by decide) (fun hc => absurd hc hf144) (fun hc144 => ?_)
      refine w_iconst (v := 1) X165 hx (hb hby at_147) (pc' := 148) rfl rfl ?_
      refine w_goto X165 hx (hb hby at_148) (pc' := 152) (by decide) (by decide) ?_
      exact w_retZ X165 hx hret hlk (hb hby at_152) (by decide) (by decide) ⟨rfl, N165⟩
    · refine w_bipush (v := 6) X hx (hb hby at_29) (pc' := 31) rfl rfl ?_
      refine w_newB X hx hZ (cap := 6) e0 (hw _ (List.mem_of_getElem? (i := 0) rfl)) (by decide) (by decide) (by decide) (by decide) (by decide) (hb hby at_31) (pc' := 33) rfl (fun T167 h167 b167 X167 e167 E167 q167 V167 => ?_)
      have g_b167 : n0 ≤ b167 := by rw [q167]; exact Z0
      have V167 : AI Z h167 b167 .byte [(0 : Int32), (0 : Int32), (0 : Int32), (0 : Int32), (0 : Int32), (0 : Int32)] := V167
      have zn167 : n0 ≤ h167.size := Nat.le_trans Z0 E167.1
      refine w_astore (Ls' := #[.val (.int x0), .val (.int x1), .val (.int x2), .val (.int v71), .val (.int (2 : Int32)), .val (.ref b167), .unset, .unset, .unset, .unset]) X167 hx (hb hby at_33) (pc' := 35) rfl rfl rfl ?_
      refine w_bipush (v := 6) X167 hx (hb hby at_35) (pc' := 37) rfl rfl ?_
      refine w_newB X167 hx hZ (cap := 6) e167 (hw _ (List.mem_of_getElem? (i := 0) rfl)) (by decide) (by decide) (by decide) (by decide) (by decide) (hb hby at_37) (pc' := 39) rfl (fun T168 h168 b168 X168 e168 E168 q168 V168 => ?_)
      have g_b168 : n0 ≤ b168 := by rw [q168]; exact zn167
      have ne_b167_b168 : b167 ≠ b168 := by rw [q168]; exact Nat.ne_of_lt V167.lt
      have V168 : AI Z h168 b168 .byte [(0 : Int32), (0 : Int32), (0 : Int32), (0 : Int32), (0 : Int32), (0 : Int32)] := V168
      have zn168 : n0 ≤ h168.size := Nat.le_trans zn167 E168.1
      refine w_astore (Ls' := #[.val (.int x0), .val (.int x1), .val (.int x2), .val (.int v71), .val (.int (2 : Int32)), .val (.ref b167), .val (.ref b168), .unset, .unset, .unset]) X168 hx (hb hby at_39) (pc' := 41) rfl rfl rfl ?_
      refine w_aload X168 hx (hb hby at_41) (pc' := 43) rfl rfl rfl ?_
      refine w_iloadN X168 hx (hb hby at_43) (pc' := 44) rfl rfl ?_
      refine w_iload X168 hx (hb hby at_44) (pc' := 46) rfl rfl ?_
      refine w_iloadN X168 hx (hb hby at_46) (pc' := 47) rfl rfl ?_
      have f170 := V167.ext E168
      refine w_callS (argsL := [(.ref b167), (.int v71), (.int (2 : Int32)), (.int x2)]) (rest := []) X168 hx hZ hown e168 (rm1 l Z a0 hw b167 v71 (2 : Int32) x2 h168 n0 zn168 (0 : Int32) (0 : Int32) (0 : Int32) (0 : Int32) (0 : Int32) (0 : Int32) g_b167 f170) (hw _ (List.mem_of_getElem? (i := 1) rfl)) (hw _ (List.mem_of_getElem? (i := 2) rfl)) (hw _ (List.mem_of_getElem? (i := 3) rfl)) (hw _ (List.mem_of_getElem? (i := 4) rfl)) (by decide) (by decide) (W := 0) (by decide) (by decide) (by decide) (by rw [hml]; rfl) (lenOf pd_4 rfl) (Nat.le_refl _) rfl (hb hby at_47) (pc' := 50) rfl (fun T169 L169 v169 X169 hQ169 => ?_)
      obtain ⟨rfl, N169q, K169, V169⟩ := hQ169
      have zn169 : n0 ≤ T169.heap.size := Nat.le_trans zn168 K169.1
      have N169 := Fr.app N0 N169q
      have X169 : Stand p l e room_1 s m _ below meth c T169 _ 2 12 := X169
      rw [show (2 : Int32).toInt8.toInt32 = (2 : Int32) from by decide] at V169
      show Go p e below s room_1.cells room_1.slots (QL (some (.int 1)) n0) T169 (mkF m 50 #[.val (.int x0), .val (.int x1), .val (.int x2), .val (.int v71), .val (.int (2 : Int32)), .val (.ref b167), .val (.ref b168), .unset, .unset, .unset] [])
      refine w_aload X169 hx (hb hby at_50) (pc' := 52) rfl rfl rfl ?_
      refine w_iloadN X169 hx (hb hby at_52) (pc' := 53) rfl rfl ?_
      refine w_iload X169 hx (hb hby at_53) (pc' := 55) rfl rfl ?_
      refine w_iloadN X169 hx (hb hby at_55) (pc' := 56) rfl rfl ?_
      have f172 := V168.keep K169 (ninS (Ne.symm ne_b167_b168) nin0)
      refine w_callS (argsL := [(.ref b168), (.int v71), (.int (2 : Int32)), (.int x2)]) (rest := []) X169 hx hZ hown rfl (rm1 l Z a0 hw b168 v71 (2 : Int32) x2 T169.heap n0 zn169 (0 : Int32) (0 : Int32) (0 : Int32) (0 : Int32) (0 : Int32) (0 : Int32) g_b168 f172) (hw _ (List.mem_of_getElem? (i := 1) rfl)) (hw _ (List.mem_of_getElem? (i := 2) rfl)) (hw _ (List.mem_of_getElem? (i := 3) rfl)) (hw _ (List.mem_of_getElem? (i := 4) rfl)) (by decide) (by decide) (W := 0) (by decide) (by decide) (by decide) (by rw [hml]; rfl) (lenOf pd_4 rfl) (Nat.le_refl _) rfl (hb hby at_56) (pc' := 59) rfl (fun T171 L171 v171 X171 hQ171 => ?_)
      obtain ⟨rfl, N171q, K171, V171⟩ := hQ171
      have zn171 : n0 ≤ T171.heap.size := Nat.le_trans zn169 K171.1
      have N171 := Fr.app N169 N171q
      have X171 : Stand p l e room_1 s m _ below meth c T171 _ 2 12 := X171
      rw [show (2 : Int32).toInt8.toInt32 = (2 : Int32) from by decide] at V171
      show Go p e below s room_1.cells room_1.slots (QL (some (.int 1)) n0) T171 (mkF m 59 #[.val (.int x0), .val (.int x1), .val (.int x2), .val (.int v71), .val (.int (2 : Int32)), .val (.ref b167), .val (.ref b168), .unset, .unset, .unset] [])
      refine w_newO X171 hx hZ hown rfl (hw _ (List.mem_of_getElem? (i := 5) rfl)) (hw _ (List.mem_of_getElem? (i := 6) rfl)) (hw _ (List.mem_of_getElem? (i := 7) rfl)) (hb hby at_59) (by decide) (by decide) (pc' := 62) rfl (fun T173 h173 b173 X173 e173 E173 q173 A173 D173 => ?_)
      have g_b173 : n0 ≤ b173 := by rw [q173]; exact zn171
      have f174 := V169.keep K171 (ninS ne_b167_b168 nin0)
      have ne_b167_b173 : b167 ≠ b173 := by rw [q173]; exact Nat.ne_of_lt f174.lt
      have ne_b168_b173 : b168 ≠ b173 := by rw [q173]; exact Nat.ne_of_lt V171.lt
      have F_input_b173 : Fld Z h173 b173 "com/example/inwrap/inwrap/DerReader" "input" "[B" .null := D173 (Or.inr (hw _ (List.mem_of_getElem? (i := 18) rfl))) (ty := (.array .byte)) (by decide)
      have F_position_b173 : Fld Z h173 b173 "com/example/inwrap/inwrap/DerReader" "position" "I" (.int (0 : Int32)) := D173 (Or.inl (hw _ (List.mem_of_getElem? (i := 20) rfl))) (ty := .int) (by decide)
      have F_end_b173 : Fld Z h173 b173 "com/example/inwrap/inwrap/DerReader" "end" "I" (.int (0 : Int32)) := D173 (Or.inr (hw _ (List.mem_of_getElem? (i := 22) rfl))) (ty := .int) (by decide)
      have zn173 : n0 ≤ h173.size := Nat.le_trans zn171 E173.1
      refine w_dup X173 hx (hb hby at_62) (pc' := 63) rfl rfl ?_
      refine w_aload X173 hx (hb hby at_63) (pc' := 65) rfl rfl rfl ?_
      have f176 := f174.ext E173
      refine w_callI (argsL := [(.ref b167)]) (rest := [(.ref b173)]) (a := b173) X173 hx hZ hown e173 (rm2 l Z a0 hw b173 b167 h173 n0 zn173 A173 g_b173 F_input_b173 F_position_b173 F_end_b173 v71.toInt8.toInt32 (2 : Int32) x2.toInt8.toInt32 (jushr x2 (8 : Int32)).toInt8.toInt32 (jushr x2 (16 : Int32)).toInt8.toInt32 (jushr x2 (24 : Int32)).toInt8.toInt32 f176 ne_b167_b173) rfl (hw _ (List.mem_of_getElem? (i := 8) rfl)) (hw _ (List.mem_of_getElem? (i := 9) rfl)) (hw _ (List.mem_of_getElem? (i := 7) rfl)) (hw _ (List.mem_of_getElem? (i := 10) rfl)) (by decide) (by decide) (W := 1) (by decide) (by decide) (by decide) (by rw [hml]; rfl) (lenOf pd_5 rfl) (Nat.le_refl _) rfl (hb hby at_65) (pc' := 68) rfl (fun T175 L175 v175 X175 hQ175 => ?_)
      obtain ⟨rfl, N175q, K175, F_input_175, F_position_175, F_end_175⟩ := hQ175
      have zn175 : n0 ≤ T175.heap.size := Nat.le_trans zn173 K175.1
      have N175 := Fr.app N171 N175q
      have X175 : Stand p l e room_1 s m _ below meth c T175 _ 3 15 := X175
      show Go p e below s room_1.cells room_1.slots (QL (some (.int 1)) n0) T175 (mkF m 68 #[.val (.int x0), .val (.int x1), .val (.int x2), .val (.int v71), .val (.int (2 : Int32)), .val (.ref b167), .val (.ref b168), .unset, .unset, .unset] [(.ref b173)])
      refine w_astore (Ls' := #[.val (.int x0), .val (.int x1), .val (.int x2), .val (.int v71), .val (.int (2 : Int32)), .val (.ref b167), .val (.ref b168), .val (.ref b173), .unset, .unset]) X175 hx (hb hby at_68) (pc' := 70) rfl rfl rfl ?_
      refine w_aload X175 hx (hb hby at_70) (pc' := 72) rfl rfl rfl ?_
      have f178 := f176.keep K175 (ninS ne_b167_b173 nin0)
      have f179 := V171.ext E173
      have f180 := f179.keep K175 (ninS ne_b168_b173 nin0)
      have f181 := A173.keep K175
      refine w_callV (argsL := []) (rest := []) (a := b173) X175 hx hZ hown rfl f181 (rm5 l Z a0 hw b173 T175.heap n0 zn175 b167 [v71.toInt8.toInt32, (2 : Int32), x2.toInt8.toInt32, (jushr x2 (8 : Int32)).toInt8.toInt32, (jushr x2 (16 : Int32)).toInt8.toInt32, (jushr x2 (24 : Int32)).toInt8.toInt32] 0 6 F_input_175 F_position_175 F_end_175 f178 (own_fit6 (fits_nar_byte _) (by decide) (fits_nar_byte _) (fits_nar_byte _) (fits_nar_byte _) (fits_nar_byte _)) (by decide) (by show 0 ≤ 6; decide) (by decide) (by decide)) (hw _ (List.mem_of_getElem? (i := 23) rfl)) (hw _ (List.mem_of_getElem? (i := 24) rfl)) (hw _ (List.mem_of_getElem? (i := 26) rfl)) (hw _ (List.mem_of_getElem? (i := 25) rfl)) (hw _ (List.mem_of_getElem? (i := 7) rfl)) (hw _ (List.mem_of_getElem? (i := 27) rfl)) (by decide) (by decide) (W := 0) (by decide) (by decide) (by decide) (by rw [hml]; rfl) (lenOf pd_6 rfl) (Nat.le_refl _) rfl (hb hby at_72) (pc' := 75) rfl (fun T177 L177 v177 X177 hQ177 => ?_)
      obtain ⟨b177, rfl, N177q, K177, sz177, V177⟩ := hQ177
      have zn177 : n0 ≤ T177.heap.size := Nat.le_trans zn175 K177.1
      have g_b177 : n0 ≤ b177 := Nat.le_trans zn175 sz177
      have ne_b167_b177 : b167 ≠ b177 := Nat.ne_of_lt (Nat.lt_of_lt_of_le f178.lt sz177)
      have ne_b168_b177 : b168 ≠ b177 := Nat.ne_of_lt (Nat.lt_of_lt_of_le f180.lt sz177)
      have ne_b173_b177 : b173 ≠ b177 := Nat.ne_of_lt (Nat.lt_of_lt_of_le f181.lt sz177)
      have N177 := Fr.app N175 N177q
      have X177 : Stand p l e room_1 s m _ below meth c T177 _ 4 21 := X177
      have V177 : AI Z T177.heap b177 .byte [v71.toInt8.toInt32, (2 : Int32), x2.toInt8.toInt32, (jushr x2 (8 : Int32)).toInt8.toInt32, (jushr x2 (16 : Int32)).toInt8.toInt32, (jushr x2 (24 : Int32)).toInt8.toInt32] := V177
      show Go p e below s room_1.cells room_1.slots (QL (some (.int 1)) n0) T177 (mkF m 75 #[.val (.int x0), .val (.int x1), .val (.int x2), .val (.int v71), .val (.int (2 : Int32)), .val (.ref b167), .val (.ref b168), .val (.ref b173), .unset, .unset] [(.ref b177)])
      refine w_astore (Ls' := #[.val (.int x0), .val (.int x1), .val (.int x2), .val (.int v71), .val (.int (2 : Int32)), .val (.ref b167), .val (.ref b168), .val (.ref b173), .val (.ref b177), .unset]) X177 hx (hb hby at_75) (pc' := 77) rfl rfl rfl ?_
      refine w_aload X177 hx (hb hby at_77) (pc' := 79) rfl rfl rfl ?_
      refine w_aload X177 hx (hb hby at_79) (pc' := 81) rfl rfl rfl ?_
      refine w_iconst (v := 0) X177 hx (hb hby at_81) (pc' := 82) rfl rfl ?_
      refine w_bipush (v := 6) X177 hx (hb hby at_82) (pc' := 84) rfl rfl ?_
      have f183 := f180.keep K177 nin0
      refine w_callS (argsL := [(.ref b177), (.ref b168), (.int (0 : Int32)), (.int (6 : Int32))]) (rest := []) X177 hx hZ hown rfl (rm7 l Z a0 hw b177 b168 (0 : Int32) (6 : Int32) T177.heap n0 [v71.toInt8.toInt32, (2 : Int32), x2.toInt8.toInt32, (jushr x2 (8 : Int32)).toInt8.toInt32, (jushr x2 (16 : Int32)).toInt8.toInt32, (jushr x2 (24 : Int32)).toInt8.toInt32] [v71.toInt8.toInt32, (2 : Int32), x2.toInt8.toInt32, (jushr x2 (8 : Int32)).toInt8.toInt32, (jushr x2 (16 : Int32)).toInt8.toInt32, (jushr x2 (24 : Int32)).toInt8.toInt32] V177 f183 (own_okl (f := 0) (n := 6) rfl rfl (by decide))) (hw _ (List.mem_of_getElem? (i := 41) rfl)) (hw _ (List.mem_of_getElem? (i := 42) rfl)) (hw _ (List.mem_of_getElem? (i := 3) rfl)) (hw _ (List.mem_of_getElem? (i := 43) rfl)) (by decide) (by decide) (W := 0) (by decide) (by decide) (by decide) (by rw [hml]; rfl) (lenOf pd_3 rfl) (Nat.le_refl _) rfl (hb hby at_84) (pc' := 87) rfl (fun T182 L182 v182 X182 hQ182 => ?_)
      obtain ⟨rfl, N182q, e182⟩ := hQ182
      have N182 := Fr.app N177 N182q
      have X182 : Stand p l e room_1 s m _ below meth c T182 _ 4 21 := X182
      show Go p e below s room_1.cells room_1.slots (QL (some (.int 1)) n0) T182 (mkF m 87 #[.val (.int x0), .val (.int x1), .val (.int x2), .val (.int v71), .val (.int (2 : Int32)), .val (.ref b167), .val (.ref b168), .val (.ref b173), .val (.ref b177), .unset] [(.int (K7_0 [v71.toInt8.toInt32, (2 : Int32), x2.toInt8.toInt32, (jushr x2 (8 : Int32)).toInt8.toInt32, (jushr x2 (16 : Int32)).toInt8.toInt32, (jushr x2 (24 : Int32)).toInt8.toInt32] [v71.toInt8.toInt32, (2 : Int32), x2.toInt8.toInt32, (jushr x2 (8 : Int32)).toInt8.toInt32, (jushr x2 (16 : Int32)).toInt8.toInt32, (jushr x2 (24 : Int32)).toInt8.toInt32] (0 : Int32) (6 : Int32)))])
      have hf87 : ¬ ((K7_0 [v71.toInt8.toInt32, (2 : Int32), x2.toInt8.toInt32, (jushr x2 (8 : Int32)).toInt8.toInt32, (jushr x2 (16 : Int32)).toInt8.toInt32, (jushr x2 (24 : Int32)).toInt8.toInt32] [v71.toInt8.toInt32, (2 : Int32), x2.toInt8.toInt32, (jushr x2 (8 : Int32)).toInt8.toInt32, (jushr x2 (16 : Int32)).toInt8.toInt32, (jushr x2 (24 : Int32)).toInt8.toInt32] (0 : Int32) (6 : Int32)) = (0 : Int32)) := (by have hs := own_sl (gs := [v71.toInt8.toInt32, (2 : Int32), x2.toInt8.toInt32, (jushr x2 (8 : Int32)).toInt8.toInt32, (jushr x2 (16 : Int32)).toInt8.toInt32, (jushr x2 (24 : Int32)).toInt8.toInt32]) (es := [v71.toInt8.toInt32, (2 : Int32), x2.toInt8.toInt32, (jushr x2 (8 : Int32)).toInt8.toInt32, (jushr x2 (16 : Int32)).toInt8.toInt32, (jushr x2 (24 : Int32)).toInt8.toInt32]) (f := 0) (n := 6) rfl (by decide) (by intro i hi; have hq : i = 0 ∨ i = 1 ∨ i = 2 ∨ i = 3 ∨ i = 4 ∨ i = 5 := (by omega); rcases hq with rfl | rfl | rfl | rfl | rfl | rfl <;> rfl); intro hq; exact absurd (hs.symm.trans hq) (by decide))
      refine w_if_ne X182 hx (hb hby at_87) (pf := 90) (pt := 92) rfl (by decide) (by decide) (fun hc87 => ?_) (fun hc => absurd hc hf87)
      refine w_aload X182 hx (hb hby at_92) (pc' := 94) rfl rfl rfl ?_
      refine w_iconst (v := 5) X182 hx (hb hby at_94) (pc' := 95) rfl rfl ?_
      refine w_aload X182 hx (hb hby at_95) (pc' := 97) rfl rfl rfl ?_
      refine w_iconst (v := 5) X182 hx (hb hby at_97) (pc' := 98) rfl rfl ?_
      refine w_baload X182 hx hZ e182 V177 (v := (jushr x2 (24 : Int32)).toInt8.toInt32) (by decide) rfl (hb hby at_98) (pc' := 99) rfl ?_
      refine w_iconst (v := 1) X182 hx (hb hby at_99) (pc' := 100) rfl rfl ?_
      refine w_ixor X182 hx (hb hby at_100) (pc' := 101) rfl ?_
      refine w_i2b X182 hx (hb hby at_101) (pc' := 102) rfl ?_
      refine w_bastore X182 hx hZ e182 V177 (by decide) (by show _ < 6; decide) (hb hby at_102) (pc' := 103) rfl (fun T184 h184 X184 e184 W184 V184 => ?_)
      have qv184 : (nar .byte ((jushr x2 (24 : Int32)).toInt8.toInt32 ^^^ (1 : Int32)).toInt8.toInt32) = ((jushr x2 (24 : Int32)).toInt8.toInt32 ^^^ (1 : Int32)).toInt8.toInt32 := own_nb _
      rw [qv184] at V184
      have V184 : AI Z h184 b177 .byte [v71.toInt8.toInt32, (2 : Int32), x2.toInt8.toInt32, (jushr x2 (8 : Int32)).toInt8.toInt32, (jushr x2 (16 : Int32)).toInt8.toInt32, ((jushr x2 (24 : Int32)).toInt8.toInt32 ^^^ (1 : Int32)).toInt8.toInt32] := V184
      have N184 := Fr.snoc X184 N182 g_b177
      have zn184 : n0 ≤ h184.size := by rw [W184.size]; exact zn177
      refine w_aload X184 hx (hb hby at_103) (pc' := 105) rfl rfl rfl ?_
      have f186 := f181.keep K177
      have f187 := f186.wr W184
      have f188 := F_input_175.keep K177 nin0
      have f189 := f188.other W184 (Or.inl ne_b173_b177)
      have f190 := F_position_175.keep K177 nin0
      have f191 := f190.other W184 (Or.inl ne_b173_b177)
      have f192 := F_end_175.keep K177 nin0
      have f193 := f192.other W184 (Or.inl ne_b173_b177)
      have f194 := f178.keep K177 nin0
      have f195 := f194.other W184 ne_b167_b177
      have f196 := f183.other W184 ne_b168_b177
      refine w_callV (argsL := []) (rest := []) (a := b173) X184 hx hZ hown e184 f187 (rm9 l Z a0 hw b173 h184 n0 zn184 b167 v71.toInt8.toInt32 (2 : Int32) x2.toInt8.toInt32 (jushr x2 (8 : Int32)).toInt8.toInt32 (jushr x2 (16 : Int32)).toInt8.toInt32 (jushr x2 (24 : Int32)).toInt8.toInt32 f187 g_b173 f189 f191 f193 f195 ne_b167_b173 (own_tag ht1 hv71) (by decide)) (hw _ (List.mem_of_getElem? (i := 47) rfl)) (hw _ (List.mem_of_getElem? (i := 48) rfl)) (hw _ (List.mem_of_getElem? (i := 50) rfl)) (hw _ (List.mem_of_getElem? (i := 49) rfl)) (hw _ (List.mem_of_getElem? (i := 7) rfl)) (hw _ (List.mem_of_getElem? (i := 51) rfl)) (by decide) (by decide) (W := 0) (by decide) (by decide) (by decide) (by rw [hml]; rfl) (lenOf pd_7 rfl) (Nat.le_refl _) rfl (hb hby at_105) (pc' := 108) rfl (fun T185 L185 v185 X185 hQ185 => ?_)
      obtain ⟨b185, rfl, N185q, K185, sz185, E185, Finput_185, Fposition_185, Fend_185, Fop_185, Finputo_185, Fendo_185⟩ := hQ185
      have zn185 : n0 ≤ T185.heap.size := Nat.le_trans zn184 K185.1
      have g_b185 : n0 ≤ b185 := Nat.le_trans zn184 sz185
      have ne_b167_b185 : b167 ≠ b185 := Nat.ne_of_lt (Nat.lt_of_lt_of_le f195.lt sz185)
      have ne_b168_b185 : b168 ≠ b185 := Nat.ne_of_lt (Nat.lt_of_lt_of_le f196.lt sz185)
      have ne_b173_b185 : b173 ≠ b185 := Nat.ne_of_lt (Nat.lt_of_lt_of_le f187.lt sz185)
      have ne_b177_b185 : b177 ≠ b185 := Nat.ne_of_lt (Nat.lt_of_lt_of_le V184.lt sz185)
      have N185 := Fr.app N184 N185q
      have X185 : Stand p l e room_1 s m _ below meth c T185 _ 5 24 := X185
      rw [show ((2 : Int32) + ((2 : Int32) &&& (255 : Int32))) = (4 : Int32) from by decide] at Fend_185 Fop_185
      show Go p e below s room_1.cells room_1.slots (QL (some (.int 1)) n0) T185 (mkF m 108 #[.val (.int x0), .val (.int x1), .val (.int x2), .val (.int v71), .val (.int (2 : Int32)), .val (.ref b167), .val (.ref b168), .val (.ref b173), .val (.ref b177), .unset] [(.ref b185)])
      refine w_astore (Ls' := #[.val (.int x0), .val (.int x1), .val (.int x2), .val (.int v71), .val (.int (2 : Int32)), .val (.ref b167), .val (.ref b168), .val (.ref b173), .val (.ref b177), .val (.ref b185)]) X185 hx (hb hby at_108) (pc' := 110) rfl rfl rfl ?_
      refine w_aload X185 hx (hb hby at_110) (pc' := 112) rfl rfl rfl ?_
      have f198 := f195.keep K185 (ninS ne_b167_b173 nin0)
      have f199 := f196.keep K185 (ninS ne_b168_b173 nin0)
      have f200 := f187.keep K185
      have f201 := V184.keep K185 (ninS (Ne.symm ne_b173_b177) nin0)
      refine w_callV (argsL := []) (rest := []) (a := b185) X185 hx hZ hown rfl E185 (rm5 l Z a0 hw b185 T185.heap n0 zn185 b167 [v71.toInt8.toInt32, (2 : Int32), x2.toInt8.toInt32, (jushr x2 (8 : Int32)).toInt8.toInt32, (jushr x2 (16 : Int32)).toInt8.toInt32, (jushr x2 (24 : Int32)).toInt8.toInt32] 2 4 Finput_185 Fposition_185 Fend_185 f198 (own_fit6 (fits_nar_byte _) (by decide) (fits_nar_byte _) (fits_nar_byte _) (fits_nar_byte _) (fits_nar_byte _)) (by decide) (by show 2 ≤ 6; decide) (by decide) (by decide)) (hw _ (List.mem_of_getElem? (i := 23) rfl)) (hw _ (List.mem_of_getElem? (i := 24) rfl)) (hw _ (List.mem_of_getElem? (i := 26) rfl)) (hw _ (List.mem_of_getElem? (i := 25) rfl)) (hw _ (List.mem_of_getElem? (i := 7) rfl)) (hw _ (List.mem_of_getElem? (i := 27) rfl)) (by decide) (by decide) (W := 0) (by decide) (by decide) (by decide) (by rw [hml]; rfl) (lenOf pd_6 rfl) (Nat.le_refl _) rfl (hb hby at_112) (pc' := 115) rfl (fun T197 L197 v197 X197 hQ197 => ?_)
      obtain ⟨b197, rfl, N197q, K197, sz197, V197⟩ := hQ197
      have zn197 : n0 ≤ T197.heap.size := Nat.le_trans zn185 K197.1
      have g_b197 : n0 ≤ b197 := Nat.le_trans zn185 sz197
      have ne_b167_b197 : b167 ≠ b197 := Nat.ne_of_lt (Nat.lt_of_lt_of_le f198.lt sz197)
      have ne_b168_b197 : b168 ≠ b197 := Nat.ne_of_lt (Nat.lt_of_lt_of_le f199.lt sz197)
      have ne_b173_b197 : b173 ≠ b197 := Nat.ne_of_lt (Nat.lt_of_lt_of_le f200.lt sz197)
      have ne_b177_b197 : b177 ≠ b197 := Nat.ne_of_lt (Nat.lt_of_lt_of_le f201.lt sz197)
      have ne_b185_b197 : b185 ≠ b197 := Nat.ne_of_lt (Nat.lt_of_lt_of_le E185.lt sz197)
      have N197 := Fr.app N185 N197q
      have X197 : Stand p l e room_1 s m _ below meth c T197 _ 6 30 := X197
      have V197 : AI Z T197.heap b197 .byte [x2.toInt8.toInt32, (jushr x2 (8 : Int32)).toInt8.toInt32] := V197
      show Go p e below s room_1.cells room_1.slots (QL (some (.int 1)) n0) T197 (mkF m 115 #[.val (.int x0), .val (.int x1), .val (.int x2), .val (.int v71), .val (.int (2 : Int32)), .val (.ref b167), .val (.ref b168), .val (.ref b173), .val (.ref b177), .val (.ref b185)] [(.ref b197)])
      refine w_aload X197 hx (hb hby at_115) (pc' := 117) rfl rfl rfl ?_
      refine w_iconst (v := 2) X197 hx (hb hby at_117) (pc' := 118) rfl rfl ?_
      refine w_iconst (v := 2) X197 hx (hb hby at_118) (pc' := 119) rfl rfl ?_
      refine w_iload X197 hx (hb hby at_119) (pc' := 121) rfl rfl ?_
      refine w_iadd X197 hx (hb hby at_121) (pc' := 122) rfl ?_
      rw [show ((2 : Int32) + (2 : Int32)) = (4 : Int32) from by decide]
      have f203 := f199.keep K197 nin0
      refine w_callS (argsL := [(.ref b197), (.ref b168), (.int (2 : Int32)), (.int (4 : Int32))]) (rest := []) X197 hx hZ hown rfl (rm7 l Z a0 hw b197 b168 (2 : Int32) (4 : Int32) T197.heap n0 [x2.toInt8.toInt32, (jushr x2 (8 : Int32)).toInt8.toInt32] [v71.toInt8.toInt32, (2 : Int32), x2.toInt8.toInt32, (jushr x2 (8 : Int32)).toInt8.toInt32, (jushr x2 (16 : Int32)).toInt8.toInt32, (jushr x2 (24 : Int32)).toInt8.toInt32] V197 f203 (own_okl (f := 2) (n := 2) rfl rfl (by decide))) (hw _ (List.mem_of_getElem? (i := 41) rfl)) (hw _ (List.mem_of_getElem? (i := 42) rfl)) (hw _ (List.mem_of_getElem? (i := 3) rfl)) (hw _ (List.mem_of_getElem? (i := 43) rfl)) (by decide) (by decide) (W := 0) (by decide) (by decide) (by decide) (by rw [hml]; rfl) (lenOf pd_3 rfl) (Nat.le_refl _) rfl (hb hby at_122) (pc' := 125) rfl (fun T202 L202 v202 X202 hQ202 => ?_)
      obtain ⟨rfl, N202q, e202⟩ := hQ202
      have N202 := Fr.app N197 N202q
      have X202 : Stand p l e room_1 s m _ below meth c T202 _ 6 30 := X202
      show Go p e below s room_1.cells room_1.slots (QL (some (.int 1)) n0) T202 (mkF m 125 #[.val (.int x0), .val (.int x1), .val (.int x2), .val (.int v71), .val (.int (2 : Int32)), .val (.ref b167), .val (.ref b168), .val (.ref b173), .val (.ref b177), .val (.ref b185)] [(.int (K7_0 [x2.toInt8.toInt32, (jushr x2 (8 : Int32)).toInt8.toInt32] [v71.toInt8.toInt32, (2 : Int32), x2.toInt8.toInt32, (jushr x2 (8 : Int32)).toInt8.toInt32, (jushr x2 (16 : Int32)).toInt8.toInt32, (jushr x2 (24 : Int32)).toInt8.toInt32] (2 : Int32) (4 : Int32)))])
      have hf125 : ¬ ((K7_0 [x2.toInt8.toInt32, (jushr x2 (8 : Int32)).toInt8.toInt32] [v71.toInt8.toInt32, (2 : Int32), x2.toInt8.toInt32, (jushr x2 (8 : Int32)).toInt8.toInt32, (jushr x2 (16 : Int32)).toInt8.toInt32, (jushr x2 (24 : Int32)).toInt8.toInt32] (2 : Int32) (4 : Int32)) = (0 : Int32)) := (by have hs := own_sl (gs := [x2.toInt8.toInt32, (jushr x2 (8 : Int32)).toInt8.toInt32]) (es := [v71.toInt8.toInt32, (2 : Int32), x2.toInt8.toInt32, (jushr x2 (8 : Int32)).toInt8.toInt32, (jushr x2 (16 : Int32)).toInt8.toInt32, (jushr x2 (24 : Int32)).toInt8.toInt32]) (f := 2) (n := 2) rfl (by decide) (by intro i hi; have hq : i = 0 ∨ i = 1 := (by omega); rcases hq with rfl | rfl <;> rfl); intro hq; exact absurd (hs.symm.trans hq) (by decide))
      refine w_if_eq X202 hx (hb hby at_125) (pf := 128) (pt := 151) rfl (by decide) (by decide) (fun hc => absurd hc hf125) (fun hc125 => ?_)
      refine w_aload X202 hx (hb hby at_128) (pc' := 130) rfl rfl rfl ?_
      have f205 := Finputo_185.keep K197 nin0
      have f206 := Fop_185.keep K197 nin0
      have f207 := Fendo_185.keep K197 nin0
      have f208 := f198.keep K197 nin0
      have f209 := f200.keep K197
      have f210 := f201.keep K197 nin0
      have f211 := E185.keep K197
      refine w_callV (argsL := []) (rest := []) (a := b173) X202 hx hZ hown e202 f209 (rm5 l Z a0 hw b173 T197.heap n0 zn197 b167 [v71.toInt8.toInt32, (2 : Int32), x2.toInt8.toInt32, (jushr x2 (8 : Int32)).toInt8.toInt32, (jushr x2 (16 : Int32)).toInt8.toInt32, (jushr x2 (24 : Int32)).toInt8.toInt32] 4 6 f205 f206 f207 f208 (own_fit6 (fits_nar_byte _) (by decide) (fits_nar_byte _) (fits_nar_byte _) (fits_nar_byte _) (fits_nar_byte _)) (by decide) (by show 4 ≤ 6; decide) (by decide) (by decide)) (hw _ (List.mem_of_getElem? (i := 23) rfl)) (hw _ (List.mem_of_getElem? (i := 24) rfl)) (hw _ (List.mem_of_getElem? (i := 26) rfl)) (hw _ (List.mem_of_getElem? (i := 25) rfl)) (hw _ (List.mem_of_getElem? (i := 7) rfl)) (hw _ (List.mem_of_getElem? (i := 27) rfl)) (by decide) (by decide) (W := 0) (by decide) (by decide) (by decide) (by rw [hml]; rfl) (lenOf pd_6 rfl) (Nat.le_refl _) rfl (hb hby at_130) (pc' := 133) rfl (fun T204 L204 v204 X204 hQ204 => ?_)
      obtain ⟨b204, rfl, N204q, K204, sz204, V204⟩ := hQ204
      have zn204 : n0 ≤ T204.heap.size := Nat.le_trans zn197 K204.1
      have g_b204 : n0 ≤ b204 := Nat.le_trans zn197 sz204
      have ne_b167_b204 : b167 ≠ b204 := Nat.ne_of_lt (Nat.lt_of_lt_of_le f208.lt sz204)
      have ne_b168_b204 : b168 ≠ b204 := Nat.ne_of_lt (Nat.lt_of_lt_of_le f203.lt sz204)
      have ne_b173_b204 : b173 ≠ b204 := Nat.ne_of_lt (Nat.lt_of_lt_of_le f209.lt sz204)
      have ne_b177_b204 : b177 ≠ b204 := Nat.ne_of_lt (Nat.lt_of_lt_of_le f210.lt sz204)
      have ne_b185_b204 : b185 ≠ b204 := Nat.ne_of_lt (Nat.lt_of_lt_of_le f211.lt sz204)
      have ne_b197_b204 : b197 ≠ b204 := Nat.ne_of_lt (Nat.lt_of_lt_of_le V197.lt sz204)
      have N204 := Fr.app N202 N204q
      have X204 : Stand p l e room_1 s m _ below meth c T204 _ 7 36 := X204
      have V204 : AI Z T204.heap b204 .byte [(jushr x2 (16 : Int32)).toInt8.toInt32, (jushr x2 (24 : Int32)).toInt8.toInt32] := V204
      show Go p e below s room_1.cells room_1.slots (QL (some (.int 1)) n0) T204 (mkF m 133 #[.val (.int x0), .val (.int x1), .val (.int x2), .val (.int v71), .val (.int (2 : Int32)), .val (.ref b167), .val (.ref b168), .val (.ref b173), .val (.ref b177), .val (.ref b185)] [(.ref b204)])
      refine w_aload X204 hx (hb hby at_133) (pc' := 135) rfl rfl rfl ?_
      refine w_iconst (v := 2) X204 hx (hb hby at_135) (pc' := 136) rfl rfl ?_
      refine w_iload X204 hx (hb hby at_136) (pc' := 138) rfl rfl ?_
      refine w_iadd X204 hx (hb hby at_138) (pc' := 139) rfl ?_
      rw [show ((2 : Int32) + (2 : Int32)) = (4 : Int32) from by decide]
      refine w_bipush (v := 6) X204 hx (hb hby at_139) (pc' := 141) rfl rfl ?_
      have f213 := f203.keep K204 nin0
      refine w_callS (argsL := [(.ref b204), (.ref b168), (.int (4 : Int32)), (.int (6 : Int32))]) (rest := []) X204 hx hZ hown rfl (rm7 l Z a0 hw b204 b168 (4 : Int32) (6 : Int32) T204.heap n0 [(jushr x2 (16 : Int32)).toInt8.toInt32, (jushr x2 (24 : Int32)).toInt8.toInt32] [v71.toInt8.toInt32, (2 : Int32), x2.toInt8.toInt32, (jushr x2 (8 : Int32)).toInt8.toInt32, (jushr x2 (16 : Int32)).toInt8.toInt32, (jushr x2 (24 : Int32)).toInt8.toInt32] V204 f213 (own_okl (f := 4) (n := 2) rfl rfl (by decide))) (hw _ (List.mem_of_getElem? (i := 41) rfl)) (hw _ (List.mem_of_getElem? (i := 42) rfl)) (hw _ (List.mem_of_getElem? (i := 3) rfl)) (hw _ (List.mem_of_getElem? (i := 43) rfl)) (by decide) (by decide) (W := 0) (by decide) (by decide) (by decide) (by rw [hml]; rfl) (lenOf pd_3 rfl) (Nat.le_refl _) rfl (hb hby at_141) (pc' := 144) rfl (fun T212 L212 v212 X212 hQ212 => ?_)
      obtain ⟨rfl, N212q, e212⟩ := hQ212
      have N212 := Fr.app N204 N212q
      have X212 : Stand p l e room_1 s m _ below meth c T212 _ 7 36 := X212
      show Go p e below s room_1.cells room_1.slots (QL (some (.int 1)) n0) T212 (mkF m 144 #[.val (.int x0), .val (.int x1), .val (.int x2), .val (.int v71), .val (.int (2 : Int32)), .val (.ref b167), .val (.ref b168), .val (.ref b173), .val (.ref b177), .val (.ref b185)] [(.int (K7_0 [(jushr x2 (16 : Int32)).toInt8.toInt32, (jushr x2 (24 : Int32)).toInt8.toInt32] [v71.toInt8.toInt32, (2 : Int32), x2.toInt8.toInt32, (jushr x2 (8 : Int32)).toInt8.toInt32, (jushr x2 (16 : Int32)).toInt8.toInt32, (jushr x2 (24 : Int32)).toInt8.toInt32] (4 : Int32) (6 : Int32)))])
      have hf144 : ¬ ((K7_0 [(jushr x2 (16 : Int32)).toInt8.toInt32, (jushr x2 (24 : Int32)).toInt8.toInt32] [v71.toInt8.toInt32, (2 : Int32), x2.toInt8.toInt32, (jushr x2 (8 : Int32)).toInt8.toInt32, (jushr x2 (16 : Int32)).toInt8.toInt32, (jushr x2 (24 : Int32)).toInt8.toInt32] (4 : Int32) (6 : Int32)) = (0 : Int32)) := (by have hs := own_sl (gs := [(jushr x2 (16 : Int32)).toInt8.toInt32, (jushr x2 (24 : Int32)).toInt8.toInt32]) (es := [v71.toInt8.toInt32, (2 : Int32), x2.toInt8.toInt32, (jushr x2 (8 : Int32)).toInt8.toInt32, (jushr x2 (16 : Int32)).toInt8.toInt32, (jushr x2 (24 : Int32)).toInt8.toInt32]) (f := 4) (n := 2) rfl (by decide) (by intro i hi; have hq : i = 0 ∨ i = 1 := (by omega); rcases hq with rfl | rfl <;> rfl); intro hq; exact absurd (hs.symm.trans hq) (by decide))
      refine w_if_eq X212 hx (hb hby at_144) (pf := 147) (pt := 151) rfl (by decide) (by decide) (fun hc => absurd hc hf144) (fun hc144 => ?_)
      refine w_iconst (v := 1) X212 hx (hb hby at_147) (pc' := 148) rfl rfl ?_
      refine w_goto X212 hx (hb hby at_148) (pc' := 152) (by decide) (by decide) ?_
      exact w_retZ X212 hx hret hlk (hb hby at_152) (by decide) (by decide) ⟨rfl, N212⟩
    · refine w_bipush (v := 6) X hx (hb hby at_29) (pc' := 31) rfl rfl ?_
      refine w_newB X hx hZ (cap := 6) e0 (hw _ (List.mem_of_getElem? (i := 0) rfl)) (by decide) (by decide) (by decide) (by decide) (by decide) (hb hby at_31) (pc' := 33) rfl (fun T214 h214 b214 X214 e214 E214 q214 V214 => ?_)
      have g_b214 : n0 ≤ b214 := by rw [q214]; exact Z0
      have V214 : AI Z h214 b214 .byte [(0 : Int32), (0 : Int32), (0 : Int32), (0 : Int32), (0 : Int32), (0 : Int32)] := V214
      have zn214 : n0 ≤ h214.size := Nat.le_trans Z0 E214.1
      refine w_astore (Ls' := #[.val (.int x0), .val (.int x1), .val (.int x2), .val (.int v71), .val (.int (3 : Int32)), .val (.ref b214), .unset, .unset, .unset, .unset]) X214 hx (hb hby at_33) (pc' := 35) rfl rfl rfl ?_
      refine w_bipush (v := 6) X214 hx (hb hby at_35) (pc' := 37) rfl rfl ?_
      refine w_newB X214 hx hZ (cap := 6) e214 (hw _ (List.mem_of_getElem? (i := 0) rfl)) (by decide) (by decide) (by decide) (by decide) (by decide) (hb hby at_37) (pc' := 39) rfl (fun T215 h215 b215 X215 e215 E215 q215 V215 => ?_)
      have g_b215 : n0 ≤ b215 := by rw [q215]; exact zn214
      have ne_b214_b215 : b214 ≠ b215 := by rw [q215]; exact Nat.ne_of_lt V214.lt
      have V215 : AI Z h215 b215 .byte [(0 : Int32), (0 : Int32), (0 : Int32), (0 : Int32), (0 : Int32), (0 : Int32)] := V215
      have zn215 : n0 ≤ h215.size := Nat.le_trans zn214 E215.1
      refine w_astore (Ls' := #[.val (.int x0), .val (.int x1), .val (.int x2), .val (.int v71), .val (.int (3 : Int32)), .val (.ref b214), .val (.ref b215), .unset, .unset, .unset]) X215 hx (hb hby at_39) (pc' := 41) rfl rfl rfl ?_
      refine w_aload X215 hx (hb hby at_41) (pc' := 43) rfl rfl rfl ?_
      refine w_iloadN X215 hx (hb hby at_43) (pc' := 44) rfl rfl ?_
      refine w_iload X215 hx (hb hby at_44) (pc' := 46) rfl rfl ?_
      refine w_iloadN X215 hx (hb hby at_46) (pc' := 47) rfl rfl ?_
      have f217 := V214.ext E215
      refine w_callS (argsL := [(.ref b214), (.int v71), (.int (3 : Int32)), (.int x2)]) (rest := []) X215 hx hZ hown e215 (rm1 l Z a0 hw b214 v71 (3 : Int32) x2 h215 n0 zn215 (0 : Int32) (0 : Int32) (0 : Int32) (0 : Int32) (0 : Int32) (0 : Int32) g_b214 f217) (hw _ (List.mem_of_getElem? (i := 1) rfl)) (hw _ (List.mem_of_getElem? (i := 2) rfl)) (hw _ (List.mem_of_getElem? (i := 3) rfl)) (hw _ (List.mem_of_getElem? (i := 4) rfl)) (by decide) (by decide) (W := 0) (by decide) (by decide) (by decide) (by rw [hml]; rfl) (lenOf pd_4 rfl) (Nat.le_refl _) rfl (hb hby at_47) (pc' := 50) rfl (fun T216 L216 v216 X216 hQ216 => ?_)
      obtain ⟨rfl, N216q, K216, V216⟩ := hQ216
      have zn216 : n0 ≤ T216.heap.size := Nat.le_trans zn215 K216.1
      have N216 := Fr.app N0 N216q
      have X216 : Stand p l e room_1 s m _ below meth c T216 _ 2 12 := X216
      rw [show (3 : Int32).toInt8.toInt32 = (3 : Int32) from by decide] at V216
      show Go p e below s room_1.cells room_1.slots (QL (some (.int 1)) n0) T216 (mkF m 50 #[.val (.int x0), .val (.int x1), .val (.int x2), .val (.int v71), .val (.int (3 : Int32)), .val (.ref b214), .val (.ref b215), .unset, .unset, .unset] [])
      refine w_aload X216 hx (hb hby at_50) (pc' := 52) rfl rfl rfl ?_
      refine w_iloadN X216 hx (hb hby at_52) (pc' := 53) rfl rfl ?_
      refine w_iload X216 hx (hb hby at_53) (pc' := 55) rfl rfl ?_
      refine w_iloadN X216 hx (hb hby at_55) (pc' := 56) rfl rfl ?_
      have f219 := V215.keep K216 (ninS (Ne.symm ne_b214_b215) nin0)
      refine w_callS (argsL := [(.ref b215), (.int v71), (.int (3 : Int32)), (.int x2)]) (rest := []) X216 hx hZ hown rfl (rm1 l Z a0 hw b215 v71 (3 : Int32) x2 T216.heap n0 zn216 (0 : Int32) (0 : Int32) (0 : Int32) (0 : Int32) (0 : Int32) (0 : Int32) g_b215 f219) (hw _ (List.mem_of_getElem? (i := 1) rfl)) (hw _ (List.mem_of_getElem? (i := 2) rfl)) (hw _ (List.mem_of_getElem? (i := 3) rfl)) (hw _ (List.mem_of_getElem? (i := 4) rfl)) (by decide) (by decide) (W := 0) (by decide) (by decide) (by decide) (by rw [hml]; rfl) (lenOf pd_4 rfl) (Nat.le_refl _) rfl (hb hby at_56) (pc' := 59) rfl (fun T218 L218 v218 X218 hQ218 => ?_)
      obtain ⟨rfl, N218q, K218, V218⟩ := hQ218
      have zn218 : n0 ≤ T218.heap.size := Nat.le_trans zn216 K218.1
      have N218 := Fr.app N216 N218q
      have X218 : Stand p l e room_1 s m _ below meth c T218 _ 2 12 := X218
      rw [show (3 : Int32).toInt8.toInt32 = (3 : Int32) from by decide] at V218
      show Go p e below s room_1.cells room_1.slots (QL (some (.int 1)) n0) T218 (mkF m 59 #[.val (.int x0), .val (.int x1), .val (.int x2), .val (.int v71), .val (.int (3 : Int32)), .val (.ref b214), .val (.ref b215), .unset, .unset, .unset] [])
      refine w_newO X218 hx hZ hown rfl (hw _ (List.mem_of_getElem? (i := 5) rfl)) (hw _ (List.mem_of_getElem? (i := 6) rfl)) (hw _ (List.mem_of_getElem? (i := 7) rfl)) (hb hby at_59) (by decide) (by decide) (pc' := 62) rfl (fun T220 h220 b220 X220 e220 E220 q220 A220 D220 => ?_)
      have g_b220 : n0 ≤ b220 := by rw [q220]; exact zn218
      have f221 := V216.keep K218 (ninS ne_b214_b215 nin0)
      have ne_b214_b220 : b214 ≠ b220 := by rw [q220]; exact Nat.ne_of_lt f221.lt
      have ne_b215_b220 : b215 ≠ b220 := by rw [q220]; exact Nat.ne_of_lt V218.lt
      have F_input_b220 : Fld Z h220 b220 "com/example/inwrap/inwrap/DerReader" "input" "[B" .null := D220 (Or.inr (hw _ (List.mem_of_getElem? (i := 18) rfl))) (ty := (.array .byte)) (by decide)
      have F_position_b220 : Fld Z h220 b220 "com/example/inwrap/inwrap/DerReader" "position" "I" (.int (0 : Int32)) := D220 (Or.inl (hw _ (List.mem_of_getElem? (i := 20) rfl))) (ty := .int) (by decide)
      have F_end_b220 : Fld Z h220 b220 "com/example/inwrap/inwrap/DerReader" "end" "I" (.int (0 : Int32)) := D220 (Or.inr (hw _ (List.mem_of_getElem? (i := 22) rfl))) (ty := .int) (by decide)
      have zn220 : n0 ≤ h220.size := Nat.le_trans zn218 E220.1
      refine w_dup X220 hx (hb hby at_62) (pc' := 63) rfl rfl ?_
      refine w_aload X220 hx (hb hby at_63) (pc' := 65) rfl rfl rfl ?_
      have f223 := f221.ext E220
      refine w_callI (argsL := [(.ref b214)]) (rest := [(.ref b220)]) (a := b220) X220 hx hZ hown e220 (rm2 l Z a0 hw b220 b214 h220 n0 zn220 A220 g_b220 F_input_b220 F_position_b220 F_end_b220 v71.toInt8.toInt32 (3 : Int32) x2.toInt8.toInt32 (jushr x2 (8 : Int32)).toInt8.toInt32 (jushr x2 (16 : Int32)).toInt8.toInt32 (jushr x2 (24 : Int32)).toInt8.toInt32 f223 ne_b214_b220) rfl (hw _ (List.mem_of_getElem? (i := 8) rfl)) (hw _ (List.mem_of_getElem? (i := 9) rfl)) (hw _ (List.mem_of_getElem? (i := 7) rfl)) (hw _ (List.mem_of_getElem? (i := 10) rfl)) (by decide) (by decide) (W := 1) (by decide) (by decide) (by decide) (by rw [hml]; rfl) (lenOf pd_5 rfl) (Nat.le_refl _) rfl (hb hby at_65) (pc' := 68) rfl (fun T222 L222 v222 X222 hQ222 => ?_)
      obtain ⟨rfl, N222q, K222, F_input_222, F_position_222, F_end_222⟩ := hQ222
      have zn222 : n0 ≤ T222.heap.size := Nat.le_trans zn220 K222.1
      have N222 := Fr.app N218 N222q
      have X222 : Stand p l e room_1 s m _ below meth c T222 _ 3 15 := X222
      show Go p e below s room_1.cells room_1.slots (QL (some (.int 1)) n0) T222 (mkF m 68 #[.val (.int x0), .val (.int x1), .val (.int x2), .val (.int v71), .val (.int (3 : Int32)), .val (.ref b214), .val (.ref b215), .unset, .unset, .unset] [(.ref b220)])
      refine w_astore (Ls' := #[.val (.int x0), .val (.int x1), .val (.int x2), .val (.int v71), .val (.int (3 : Int32)), .val (.ref b214), .val (.ref b215), .val (.ref b220), .unset, .unset]) X222 hx (hb hby at_68) (pc' := 70) rfl rfl rfl ?_
      refine w_aload X222 hx (hb hby at_70) (pc' := 72) rfl rfl rfl ?_
      have f225 := f223.keep K222 (ninS ne_b214_b220 nin0)
      have f226 := V218.ext E220
      have f227 := f226.keep K222 (ninS ne_b215_b220 nin0)
      have f228 := A220.keep K222
      refine w_callV (argsL := []) (rest := []) (a := b220) X222 hx hZ hown rfl f228 (rm5 l Z a0 hw b220 T222.heap n0 zn222 b214 [v71.toInt8.toInt32, (3 : Int32), x2.toInt8.toInt32, (jushr x2 (8 : Int32)).toInt8.toInt32, (jushr x2 (16 : Int32)).toInt8.toInt32, (jushr x2 (24 : Int32)).toInt8.toInt32] 0 6 F_input_222 F_position_222 F_end_222 f225 (own_fit6 (fits_nar_byte _) (by decide) (fits_nar_byte _) (fits_nar_byte _) (fits_nar_byte _) (fits_nar_byte _)) (by decide) (by show 0 ≤ 6; decide) (by decide) (by decide)) (hw _ (List.mem_of_getElem? (i := 23) rfl)) (hw _ (List.mem_of_getElem? (i := 24) rfl)) (hw _ (List.mem_of_getElem? (i := 26) rfl)) (hw _ (List.mem_of_getElem? (i := 25) rfl)) (hw _ (List.mem_of_getElem? (i := 7) rfl)) (hw _ (List.mem_of_getElem? (i := 27) rfl)) (by decide) (by decide) (W := 0) (by decide) (by decide) (by decide) (by rw [hml]; rfl) (lenOf pd_6 rfl) (Nat.le_refl _) rfl (hb hby at_72) (pc' := 75) rfl (fun T224 L224 v224 X224 hQ224 => ?_)
      obtain ⟨b224, rfl, N224q, K224, sz224, V224⟩ := hQ224
      have zn224 : n0 ≤ T224.heap.size := Nat.le_trans zn222 K224.1
      have g_b224 : n0 ≤ b224 := Nat.le_trans zn222 sz224
      have ne_b214_b224 : b214 ≠ b224 := Nat.ne_of_lt (Nat.lt_of_lt_of_le f225.lt sz224)
      have ne_b215_b224 : b215 ≠ b224 := Nat.ne_of_lt (Nat.lt_of_lt_of_le f227.lt sz224)
      have ne_b220_b224 : b220 ≠ b224 := Nat.ne_of_lt (Nat.lt_of_lt_of_le f228.lt sz224)
      have N224 := Fr.app N222 N224q
      have X224 : Stand p l e room_1 s m _ below meth c T224 _ 4 21 := X224
      have V224 : AI Z T224.heap b224 .byte [v71.toInt8.toInt32, (3 : Int32), x2.toInt8.toInt32, (jushr x2 (8 : Int32)).toInt8.toInt32, (jushr x2 (16 : Int32)).toInt8.toInt32, (jushr x2 (24 : Int32)).toInt8.toInt32] := V224
      show Go p e below s room_1.cells room_1.slots (QL (some (.int 1)) n0) T224 (mkF m 75 #[.val (.int x0), .val (.int x1), .val (.int x2), .val (.int v71), .val (.int (3 : Int32)), .val (.ref b214), .val (.ref b215), .val (.ref b220), .unset, .unset] [(.ref b224)])
      refine w_astore (Ls' := #[.val (.int x0), .val (.int x1), .val (.int x2), .val (.int v71), .val (.int (3 : Int32)), .val (.ref b214), .val (.ref b215), .val (.ref b220), .val (.ref b224), .unset]) X224 hx (hb hby at_75) (pc' := 77) rfl rfl rfl ?_
      refine w_aload X224 hx (hb hby at_77) (pc' := 79) rfl rfl rfl ?_
      refine w_aload X224 hx (hb hby at_79) (pc' := 81) rfl rfl rfl ?_
      refine w_iconst (v := 0) X224 hx (hb hby at_81) (pc' := 82) rfl rfl ?_
      refine w_bipush (v := 6) X224 hx (hb hby at_82) (pc' := 84) rfl rfl ?_
      have f230 := f227.keep K224 nin0
      refine w_callS (argsL := [(.ref b224), (.ref b215), (.int (0 : Int32)), (.int (6 : Int32))]) (rest := []) X224 hx hZ hown rfl (rm7 l Z a0 hw b224 b215 (0 : Int32) (6 : Int32) T224.heap n0 [v71.toInt8.toInt32, (3 : Int32), x2.toInt8.toInt32, (jushr x2 (8 : Int32)).toInt8.toInt32, (jushr x2 (16 : Int32)).toInt8.toInt32, (jushr x2 (24 : Int32)).toInt8.toInt32] [v71.toInt8.toInt32, (3 : Int32), x2.toInt8.toInt32, (jushr x2 (8 : Int32)).toInt8.toInt32, (jushr x2 (16 : Int32)).toInt8.toInt32, (jushr x2 (24 : Int32)).toInt8.toInt32] V224 f230 (own_okl (f := 0) (n := 6) rfl rfl (by decide))) (hw _ (List.mem_of_getElem? (i := 41) rfl)) (hw _ (List.mem_of_getElem? (i := 42) rfl)) (hw _ (List.mem_of_getElem? (i := 3) rfl)) (hw _ (List.mem_of_getElem? (i := 43) rfl)) (by decide) (by decide) (W := 0) (by decide) (by decide) (by decide) (by rw [hml]; rfl) (lenOf pd_3 rfl) (Nat.le_refl _) rfl (hb hby at_84) (pc' := 87) rfl (fun T229 L229 v229 X229 hQ229 => ?_)
      obtain ⟨rfl, N229q, e229⟩ := hQ229
      have N229 := Fr.app N224 N229q
      have X229 : Stand p l e room_1 s m _ below meth c T229 _ 4 21 := X229
      show Go p e below s room_1.cells room_1.slots (QL (some (.int 1)) n0) T229 (mkF m 87 #[.val (.int x0), .val (.int x1), .val (.int x2), .val (.int v71), .val (.int (3 : Int32)), .val (.ref b214), .val (.ref b215), .val (.ref b220), .val (.ref b224), .unset] [(.int (K7_0 [v71.toInt8.toInt32, (3 : Int32), x2.toInt8.toInt32, (jushr x2 (8 : Int32)).toInt8.toInt32, (jushr x2 (16 : Int32)).toInt8.toInt32, (jushr x2 (24 : Int32)).toInt8.toInt32] [v71.toInt8.toInt32, (3 : Int32), x2.toInt8.toInt32, (jushr x2 (8 : Int32)).toInt8.toInt32, (jushr x2 (16 : Int32)).toInt8.toInt32, (jushr x2 (24 : Int32)).toInt8.toInt32] (0 : Int32) (6 : Int32)))])
      have hf87 : ¬ ((K7_0 [v71.toInt8.toInt32, (3 : Int32), x2.toInt8.toInt32, (jushr x2 (8 : Int32)).toInt8.toInt32, (jushr x2 (16 : Int32)).toInt8.toInt32, (jushr x2 (24 : Int32)).toInt8.toInt32] [v71.toInt8.toInt32, (3 : Int32), x2.toInt8.toInt32, (jushr x2 (8 : Int32)).toInt8.toInt32, (jushr x2 (16 : Int32)).toInt8.toInt32, (jushr x2 (24 : Int32)).toInt8.toInt32] (0 : Int32) (6 : Int32)) = (0 : Int32)) := (by have hs := own_sl (gs := [v71.toInt8.toInt32, (3 : Int32), x2.toInt8.toInt32, (jushr x2 (8 : Int32)).toInt8.toInt32, (jushr x2 (16 : Int32)).toInt8.toInt32, (jushr x2 (24 : Int32)).toInt8.toInt32]) (es := [v71.toInt8.toInt32, (3 : Int32), x2.toInt8.toInt32, (jushr x2 (8 : Int32)).toInt8.toInt32, (jushr x2 (16 : Int32)).toInt8.toInt32, (jushr x2 (24 : Int32)).toInt8.toInt32]) (f := 0) (n := 6) rfl (by decide) (by intro i hi; have hq : i = 0 ∨ i = 1 ∨ i = 2 ∨ i = 3 ∨ i = 4 ∨ i = 5 := (by omega); rcases hq with rfl | rfl | rfl | rfl | rfl | rfl <;> rfl); intro hq; exact absurd (hs.symm.trans hq) (by decide))
      refine w_if_ne X229 hx (hb hby at_87) (pf := 90) (pt := 92) rfl (by decide) (by decide) (fun hc87 => ?_) (fun hc => absurd hc hf87)
      refine w_aload X229 hx (hb hby at_92) (pc' := 94) rfl rfl rfl ?_
      refine w_iconst (v := 5) X229 hx (hb hby at_94) (pc' := 95) rfl rfl ?_
      refine w_aload X229 hx (hb hby at_95) (pc' := 97) rfl rfl rfl ?_
      refine w_iconst (v := 5) X229 hx (hb hby at_97) (pc' := 98) rfl rfl ?_
      refine w_baload X229 hx hZ e229 V224 (v := (jushr x2 (24 : Int32)).toInt8.toInt32) (by decide) rfl (hb hby at_98) (pc' := 99) rfl ?_
      refine w_iconst (v := 1) X229 hx (hb hby at_99) (pc' := 100) rfl rfl ?_
      refine w_ixor X229 hx (hb hby at_100) (pc' := 101) rfl ?_
      refine w_i2b X229 hx (hb hby at_101) (pc' := 102) rfl ?_
      refine w_bastore X229 hx hZ e229 V224 (by decide) (by show _ < 6; decide) (hb hby at_102) (pc' := 103) rfl (fun T231 h231 X231 e231 W231 V231 => ?_)
      have qv231 : (nar .byte ((jushr x2 (24 : Int32)).toInt8.toInt32 ^^^ (1 : Int32)).toInt8.toInt32) = ((jushr x2 (24 : Int32)).toInt8.toInt32 ^^^ (1 : Int32)).toInt8.toInt32 := own_nb _
      rw [qv231] at V231
      have V231 : AI Z h231 b224 .byte [v71.toInt8.toInt32, (3 : Int32), x2.toInt8.toInt32, (jushr x2 (8 : Int32)).toInt8.toInt32, (jushr x2 (16 : Int32)).toInt8.toInt32, ((jushr x2 (24 : Int32)).toInt8.toInt32 ^^^ (1 : Int32)).toInt8.toInt32] := V231
      have N231 := Fr.snoc X231 N229 g_b224
      have zn231 : n0 ≤ h231.size := by rw [W231.size]; exact zn224
      refine w_aload X231 hx (hb hby at_103) (pc' := 105) rfl rfl rfl ?_
      have f233 := f228.keep K224
      have f234 := f233.wr W231
      have f235 := F_input_222.keep K224 nin0
      have f236 := f235.other W231 (Or.inl ne_b220_b224)
      have f237 := F_position_222.keep K224 nin0
      have f238 := f237.other W231 (Or.inl ne_b220_b224)
      have f239 := F_end_222.keep K224 nin0
      have f240 := f239.other W231 (Or.inl ne_b220_b224)
      have f241 := f225.keep K224 nin0
      have f242 := f241.other W231 ne_b214_b224
      have f243 := f230.other W231 ne_b215_b224
      refine w_callV (argsL := []) (rest := []) (a := b220) X231 hx hZ hown e231 f234 (rm9 l Z a0 hw b220 h231 n0 zn231 b214 v71.toInt8.toInt32 (3 : Int32) x2.toInt8.toInt32 (jushr x2 (8 : Int32)).toInt8.toInt32 (jushr x2 (16 : Int32)).toInt8.toInt32 (jushr x2 (24 : Int32)).toInt8.toInt32 f234 g_b220 f236 f238 f240 f242 ne_b214_b220 (own_tag ht1 hv71) (by decide)) (hw _ (List.mem_of_getElem? (i := 47) rfl)) (hw _ (List.mem_of_getElem? (i := 48) rfl)) (hw _ (List.mem_of_getElem? (i := 50) rfl)) (hw _ (List.mem_of_getElem? (i := 49) rfl)) (hw _ (List.mem_of_getElem? (i := 7) rfl)) (hw _ (List.mem_of_getElem? (i := 51) rfl)) (by decide) (by decide) (W := 0) (by decide) (by decide) (by decide) (by rw [hml]; rfl) (lenOf pd_7 rfl) (Nat.le_refl _) rfl (hb hby at_105) (pc' := 108) rfl (fun T232 L232 v232 X232 hQ232 => ?_)
      obtain ⟨b232, rfl, N232q, K232, sz232, E232, Finput_232, Fposition_232, Fend_232, Fop_232, Finputo_232, Fendo_232⟩ := hQ232
      have zn232 : n0 ≤ T232.heap.size := Nat.le_trans zn231 K232.1
      have g_b232 : n0 ≤ b232 := Nat.le_trans zn231 sz232
      have ne_b214_b232 : b214 ≠ b232 := Nat.ne_of_lt (Nat.lt_of_lt_of_le f242.lt sz232)
      have ne_b215_b232 : b215 ≠ b232 := Nat.ne_of_lt (Nat.lt_of_lt_of_le f243.lt sz232)
      have ne_b220_b232 : b220 ≠ b232 := Nat.ne_of_lt (Nat.lt_of_lt_of_le f234.lt sz232)
      have ne_b224_b232 : b224 ≠ b232 := Nat.ne_of_lt (Nat.lt_of_lt_of_le V231.lt sz232)
      have N232 := Fr.app N231 N232q
      have X232 : Stand p l e room_1 s m _ below meth c T232 _ 5 24 := X232
      rw [show ((2 : Int32) + ((3 : Int32) &&& (255 : Int32))) = (5 : Int32) from by decide] at Fend_232 Fop_232
      show Go p e below s room_1.cells room_1.slots (QL (some (.int 1)) n0) T232 (mkF m 108 #[.val (.int x0), .val (.int x1), .val (.int x2), .val (.int v71), .val (.int (3 : Int32)), .val (.ref b214), .val (.ref b215), .val (.ref b220), .val (.ref b224), .unset] [(.ref b232)])
      refine w_astore (Ls' := #[.val (.int x0), .val (.int x1), .val (.int x2), .val (.int v71), .val (.int (3 : Int32)), .val (.ref b214), .val (.ref b215), .val (.ref b220), .val (.ref b224), .val (.ref b232)]) X232 hx (hb hby at_108) (pc' := 110) rfl rfl rfl ?_
      refine w_aload X232 hx (hb hby at_110) (pc' := 112) rfl rfl rfl ?_
      have f245 := f242.keep K232 (ninS ne_b214_b220 nin0)
      have f246 := f243.keep K232 (ninS ne_b215_b220 nin0)
      have f247 := f234.keep K232
      have f248 := V231.keep K232 (ninS (Ne.symm ne_b220_b224) nin0)
      refine w_callV (argsL := []) (rest := []) (a := b232) X232 hx hZ hown rfl E232 (rm5 l Z a0 hw b232 T232.heap n0 zn232 b214 [v71.toInt8.toInt32, (3 : Int32), x2.toInt8.toInt32, (jushr x2 (8 : Int32)).toInt8.toInt32, (jushr x2 (16 : Int32)).toInt8.toInt32, (jushr x2 (24 : Int32)).toInt8.toInt32] 2 5 Finput_232 Fposition_232 Fend_232 f245 (own_fit6 (fits_nar_byte _) (by decide) (fits_nar_byte _) (fits_nar_byte _) (fits_nar_byte _) (fits_nar_byte _)) (by decide) (by show 2 ≤ 6; decide) (by decide) (by decide)) (hw _ (List.mem_of_getElem? (i := 23) rfl)) (hw _ (List.mem_of_getElem? (i := 24) rfl)) (hw _ (List.mem_of_getElem? (i := 26) rfl)) (hw _ (List.mem_of_getElem? (i := 25) rfl)) (hw _ (List.mem_of_getElem? (i := 7) rfl)) (hw _ (List.mem_of_getElem? (i := 27) rfl)) (by decide) (by decide) (W := 0) (by decide) (by decide) (by decide) (by rw [hml]; rfl) (lenOf pd_6 rfl) (Nat.le_refl _) rfl (hb hby at_112) (pc' := 115) rfl (fun T244 L244 v244 X244 hQ244 => ?_)
      obtain ⟨b244, rfl, N244q, K244, sz244, V244⟩ := hQ244
      have zn244 : n0 ≤ T244.heap.size := Nat.le_trans zn232 K244.1
      have g_b244 : n0 ≤ b244 := Nat.le_trans zn232 sz244
      have ne_b214_b244 : b214 ≠ b244 := Nat.ne_of_lt (Nat.lt_of_lt_of_le f245.lt sz244)
      have ne_b215_b244 : b215 ≠ b244 := Nat.ne_of_lt (Nat.lt_of_lt_of_le f246.lt sz244)
      have ne_b220_b244 : b220 ≠ b244 := Nat.ne_of_lt (Nat.lt_of_lt_of_le f247.lt sz244)
      have ne_b224_b244 : b224 ≠ b244 := Nat.ne_of_lt (Nat.lt_of_lt_of_le f248.lt sz244)
      have ne_b232_b244 : b232 ≠ b244 := Nat.ne_of_lt (Nat.lt_of_lt_of_le E232.lt sz244)
      have N244 := Fr.app N232 N244q
      have X244 : Stand p l e room_1 s m _ below meth c T244 _ 6 30 := X244
      have V244 : AI Z T244.heap b244 .byte [x2.toInt8.toInt32, (jushr x2 (8 : Int32)).toInt8.toInt32, (jushr x2 (16 : Int32)).toInt8.toInt32] := V244
      show Go p e below s room_1.cells room_1.slots (QL (some (.int 1)) n0) T244 (mkF m 115 #[.val (.int x0), .val (.int x1), .val (.int x2), .val (.int v71), .val (.int (3 : Int32)), .val (.ref b214), .val (.ref b215), .val (.ref b220), .val (.ref b224), .val (.ref b232)] [(.ref b244)])
      refine w_aload X244 hx (hb hby at_115) (pc' := 117) rfl rfl rfl ?_
      refine w_iconst (v := 2) X244 hx (hb hby at_117) (pc' := 118) rfl rfl ?_
      refine w_iconst (v := 2) X244 hx (hb hby at_118) (pc' := 119) rfl rfl ?_
      refine w_iload X244 hx (hb hby at_119) (pc' := 121) rfl rfl ?_
      refine w_iadd X244 hx (hb hby at_121) (pc' := 122) rfl ?_
      rw [show ((2 : Int32) + (3 : Int32)) = (5 : Int32) from by decide]
      have f250 := f246.keep K244 nin0
      refine w_callS (argsL := [(.ref b244), (.ref b215), (.int (2 : Int32)), (.int (5 : Int32))]) (rest := []) X244 hx hZ hown rfl (rm7 l Z a0 hw b244 b215 (2 : Int32) (5 : Int32) T244.heap n0 [x2.toInt8.toInt32, (jushr x2 (8 : Int32)).toInt8.toInt32, (jushr x2 (16 : Int32)).toInt8.toInt32] [v71.toInt8.toInt32, (3 : Int32), x2.toInt8.toInt32, (jushr x2 (8 : Int32)).toInt8.toInt32, (jushr x2 (16 : Int32)).toInt8.toInt32, (jushr x2 (24 : Int32)).toInt8.toInt32] V244 f250 (own_okl (f := 2) (n := 3) rfl rfl (by decide))) (hw _ (List.mem_of_getElem? (i := 41) rfl)) (hw _ (List.mem_of_getElem? (i := 42) rfl)) (hw _ (List.mem_of_getElem? (i := 3) rfl)) (hw _ (List.mem_of_getElem? (i := 43) rfl)) (by decide) (by decide) (W := 0) (by decide) (by decide) (by decide) (by rw [hml]; rfl) (lenOf pd_3 rfl) (Nat.le_refl _) rfl (hb hby at_122) (pc' := 125) rfl (fun T249 L249 v249 X249 hQ249 => ?_)
      obtain ⟨rfl, N249q, e249⟩ := hQ249
      have N249 := Fr.app N244 N249q
      have X249 : Stand p l e room_1 s m _ below meth c T249 _ 6 30 := X249
      show Go p e below s room_1.cells room_1.slots (QL (some (.int 1)) n0) T249 (mkF m 125 #[.val (.int x0), .val (.int x1), .val (.int x2), .val (.int v71), .val (.int (3 : Int32)), .val (.ref b214), .val (.ref b215), .val (.ref b220), .val (.ref b224), .val (.ref b232)] [(.int (K7_0 [x2.toInt8.toInt32, (jushr x2 (8 : Int32)).toInt8.toInt32, (jushr x2 (16 : Int32)).toInt8.toInt32] [v71.toInt8.toInt32, (3 : Int32), x2.toInt8.toInt32, (jushr x2 (8 : Int32)).toInt8.toInt32, (jushr x2 (16 : Int32)).toInt8.toInt32, (jushr x2 (24 : Int32)).toInt8.toInt32] (2 : Int32) (5 : Int32)))])
      have hf125 : ¬ ((K7_0 [x2.toInt8.toInt32, (jushr x2 (8 : Int32)).toInt8.toInt32, (jushr x2 (16 : Int32)).toInt8.toInt32] [v71.toInt8.toInt32, (3 : Int32), x2.toInt8.toInt32, (jushr x2 (8 : Int32)).toInt8.toInt32, (jushr x2 (16 : Int32)).toInt8.toInt32, (jushr x2 (24 : Int32)).toInt8.toInt32] (2 : Int32) (5 : Int32)) = (0 : Int32)) := (by have hs := own_sl (gs := [x2.toInt8.toInt32, (jushr x2 (8 : Int32)).toInt8.toInt32, (jushr x2 (16 : Int32)).toInt8.toInt32]) (es := [v71.toInt8.toInt32, (3 : Int32), x2.toInt8.toInt32, (jushr x2 (8 : Int32)).toInt8.toInt32, (jushr x2 (16 : Int32)).toInt8.toInt32, (jushr x2 (24 : Int32)).toInt8.toInt32]) (f := 2) (n := 3) rfl (by decide) (by intro i hi; have hq : i = 0 ∨ i = 1 ∨ i = 2 := (by omega); rcases hq with rfl | rfl | rfl <;> rfl); intro hq; exact absurd (hs.symm.trans hq) (by decide))
      refine w_if_eq X249 hx (hb hby at_125) (pf := 128) (pt := 151) rfl (by decide) (by decide) (fun hc => absurd hc hf125) (fun hc125 => ?_)
      refine w_aload X249 hx (hb hby at_128) (pc' := 130) rfl rfl rfl ?_
      have f252 := Finputo_232.keep K244 nin0
      have f253 := Fop_232.keep K244 nin0
      have f254 := Fendo_232.keep K244 nin0
      have f255 := f245.keep K244 nin0
      have f256 := f247.keep K244
      have f257 := f248.keep K244 nin0
      have f258 := E232.keep K244
      refine w_callV (argsL := []) (rest := []) (a := b220) X249 hx hZ hown e249 f256 (rm5 l Z a0 hw b220 T244.heap n0 zn244 b214 [v71.toInt8.toInt32, (3 : Int32), x2.toInt8.toInt32, (jushr x2 (8 : Int32)).toInt8.toInt32, (jushr x2 (16 : Int32)).toInt8.toInt32, (jushr x2 (24 : Int32)).toInt8.toInt32] 5 6 f252 f253 f254 f255 (own_fit6 (fits_nar_byte _) (by decide) (fits_nar_byte _) (fits_nar_byte _) (fits_nar_byte _) (fits_nar_byte _)) (by decide) (by show 5 ≤ 6; decide) (by decide) (by decide)) (hw _ (List.mem_of_getElem? (i := 23) rfl)) (hw _ (List.mem_of_getElem? (i := 24) rfl)) (hw _ (List.mem_of_getElem? (i := 26) rfl)) (hw _ (List.mem_of_getElem? (i := 25) rfl)) (hw _ (List.mem_of_getElem? (i := 7) rfl)) (hw _ (List.mem_of_getElem? (i := 27) rfl)) (by decide) (by decide) (W := 0) (by decide) (by decide) (by decide) (by rw [hml]; rfl) (lenOf pd_6 rfl) (Nat.le_refl _) rfl (hb hby at_130) (pc' := 133) rfl (fun T251 L251 v251 X251 hQ251 => ?_)
      obtain ⟨b251, rfl, N251q, K251, sz251, V251⟩ := hQ251
      have zn251 : n0 ≤ T251.heap.size := Nat.le_trans zn244 K251.1
      have g_b251 : n0 ≤ b251 := Nat.le_trans zn244 sz251
      have ne_b214_b251 : b214 ≠ b251 := Nat.ne_of_lt (Nat.lt_of_lt_of_le f255.lt sz251)
      have ne_b215_b251 : b215 ≠ b251 := Nat.ne_of_lt (Nat.lt_of_lt_of_le f250.lt sz251)
      have ne_b220_b251 : b220 ≠ b251 := Nat.ne_of_lt (Nat.lt_of_lt_of_le f256.lt sz251)
      have ne_b224_b251 : b224 ≠ b251 := Nat.ne_of_lt (Nat.lt_of_lt_of_le f257.lt sz251)
      have ne_b232_b251 : b232 ≠ b251 := Nat.ne_of_lt (Nat.lt_of_lt_of_le f258.lt sz251)
      have ne_b244_b251 : b244 ≠ b251 := Nat.ne_of_lt (Nat.lt_of_lt_of_le V244.lt sz251)
      have N251 := Fr.app N249 N251q
      have X251 : Stand p l e room_1 s m _ below meth c T251 _ 7 36 := X251
      have V251 : AI Z T251.heap b251 .byte [(jushr x2 (24 : Int32)).toInt8.toInt32] := V251
      show Go p e below s room_1.cells room_1.slots (QL (some (.int 1)) n0) T251 (mkF m 133 #[.val (.int x0), .val (.int x1), .val (.int x2), .val (.int v71), .val (.int (3 : Int32)), .val (.ref b214), .val (.ref b215), .val (.ref b220), .val (.ref b224), .val (.ref b232)] [(.ref b251)])
      refine w_aload X251 hx (hb hby at_133) (pc' := 135) rfl rfl rfl ?_
      refine w_iconst (v := 2) X251 hx (hb hby at_135) (pc' := 136) rfl rfl ?_
      refine w_iload X251 hx (hb hby at_136) (pc' := 138) rfl rfl ?_
      refine w_iadd X251 hx (hb hby at_138) (pc' := 139) rfl ?_
      rw [show ((2 : Int32) + (3 : Int32)) = (5 : Int32) from by decide]
      refine w_bipush (v := 6) X251 hx (hb hby at_139) (pc' := 141) rfl rfl ?_
      have f260 := f250.keep K251 nin0
      refine w_callS (argsL := [(.ref b251), (.ref b215), (.int (5 : Int32)), (.int (6 : Int32))]) (rest := []) X251 hx hZ hown rfl (rm7 l Z a0 hw b251 b215 (5 : Int32) (6 : Int32) T251.heap n0 [(jushr x2 (24 : Int32)).toInt8.toInt32] [v71.toInt8.toInt32, (3 : Int32), x2.toInt8.toInt32, (jushr x2 (8 : Int32)).toInt8.toInt32, (jushr x2 (16 : Int32)).toInt8.toInt32, (jushr x2 (24 : Int32)).toInt8.toInt32] V251 f260 (own_okl (f := 5) (n := 1) rfl rfl (by decide))) (hw _ (List.mem_of_getElem? (i := 41) rfl)) (hw _ (List.mem_of_getElem? (i := 42) rfl)) (hw _ (List.mem_of_getElem? (i := 3) rfl)) (hw _ (List.mem_of_getElem? (i := 43) rfl)) (by decide) (by decide) (W := 0) (by decide) (by decide) (by decide) (by rw [hml]; rfl) (lenOf pd_3 rfl) (Nat.le_refl _) rfl (hb hby at_141) (pc' := 144) rfl (fun T259 L259 v259 X259 hQ259 => ?_)
      obtain ⟨rfl, N259q, e259⟩ := hQ259
      have N259 := Fr.app N251 N259q
      have X259 : Stand p l e room_1 s m _ below meth c T259 _ 7 36 := X259
      show Go p e below s room_1.cells room_1.slots (QL (some (.int 1)) n0) T259 (mkF m 144 #[.val (.int x0), .val (.int x1), .val (.int x2), .val (.int v71), .val (.int (3 : Int32)), .val (.ref b214), .val (.ref b215), .val (.ref b220), .val (.ref b224), .val (.ref b232)] [(.int (K7_0 [(jushr x2 (24 : Int32)).toInt8.toInt32] [v71.toInt8.toInt32, (3 : Int32), x2.toInt8.toInt32, (jushr x2 (8 : Int32)).toInt8.toInt32, (jushr x2 (16 : Int32)).toInt8.toInt32, (jushr x2 (24 : Int32)).toInt8.toInt32] (5 : Int32) (6 : Int32)))])
      have hf144 : ¬ ((K7_0 [(jushr x2 (24 : Int32)).toInt8.toInt32] [v71.toInt8.toInt32, (3 : Int32), x2.toInt8.toInt32, (jushr x2 (8 : Int32)).toInt8.toInt32, (jushr x2 (16 : Int32)).toInt8.toInt32, (jushr x2 (24 : Int32)).toInt8.toInt32] (5 : Int32) (6 : Int32)) = (0 : Int32)) := (by have hs := own_sl (gs := [(jushr x2 (24 : Int32)).toInt8.toInt32]) (es := [v71.toInt8.toInt32, (3 : Int32), x2.toInt8.toInt32, (jushr x2 (8 : Int32)).toInt8.toInt32, (jushr x2 (16 : Int32)).toInt8.toInt32, (jushr x2 (24 : Int32)).toInt8.toInt32]) (f := 5) (n := 1) rfl (by decide) (by intro i hi; have hq : i = 0 := (by omega); subst hq; rfl); intro hq; exact absurd (hs.symm.trans hq) (by decide))
      refine w_if_eq X259 hx (hb hby at_144) (pf := 147) (pt := 151) rfl (by decide) (by decide) (fun hc => absurd hc hf144) (fun hc144 => ?_)
      refine w_iconst (v := 1) X259 hx (hb hby at_147) (pc' := 148) rfl rfl ?_
      refine w_goto X259 hx (hb hby at_148) (pc' := 152) (by decide) (by decide) ?_
      exact w_retZ X259 hx hret hlk (hb hby at_152) (by decide) (by decide) ⟨rfl, N259⟩
    · refine w_bipush (v := 6) X hx (hb hby at_29) (pc' := 31) rfl rfl ?_
      refine w_newB X hx hZ (cap := 6) e0 (hw _ (List.mem_of_getElem? (i := 0) rfl)) (by decide) (by decide) (by decide) (by decide) (by decide) (hb hby at_31) (pc' := 33) rfl (fun T261 h261 b261 X261 e261 E261 q261 V261 => ?_)
      have g_b261 : n0 ≤ b261 := by rw [q261]; exact Z0
      have V261 : AI Z h261 b261 .byte [(0 : Int32), (0 : Int32), (0 : Int32), (0 : Int32), (0 : Int32), (0 : Int32)] := V261
      have zn261 : n0 ≤ h261.size := Nat.le_trans Z0 E261.1
      refine w_astore (Ls' := #[.val (.int x0), .val (.int x1), .val (.int x2), .val (.int v71), .val (.int (4 : Int32)), .val (.ref b261), .unset, .unset, .unset, .unset]) X261 hx (hb hby at_33) (pc' := 35) rfl rfl rfl ?_
      refine w_bipush (v := 6) X261 hx (hb hby at_35) (pc' := 37) rfl rfl ?_
      refine w_newB X261 hx hZ (cap := 6) e261 (hw _ (List.mem_of_getElem? (i := 0) rfl)) (by decide) (by decide) (by decide) (by decide) (by decide) (hb hby at_37) (pc' := 39) rfl (fun T262 h262 b262 X262 e262 E262 q262 V262 => ?_)
      have g_b262 : n0 ≤ b262 := by rw [q262]; exact zn261
      have ne_b261_b262 : b261 ≠ b262 := by rw [q262]; exact Nat.ne_of_lt V261.lt
      have V262 : AI Z h262 b262 .byte [(0 : Int32), (0 : Int32), (0 : Int32), (0 : Int32), (0 : Int32), (0 : Int32)] := V262
      have zn262 : n0 ≤ h262.size := Nat.le_trans zn261 E262.1
      refine w_astore (Ls' := #[.val (.int x0), .val (.int x1), .val (.int x2), .val (.int v71), .val (.int (4 : Int32)), .val (.ref b261), .val (.ref b262), .unset, .unset, .unset]) X262 hx (hb hby at_39) (pc' := 41) rfl rfl rfl ?_
      refine w_aload X262 hx (hb hby at_41) (pc' := 43) rfl rfl rfl ?_
      refine w_iloadN X262 hx (hb hby at_43) (pc' := 44) rfl rfl ?_
      refine w_iload X262 hx (hb hby at_44) (pc' := 46) rfl rfl ?_
      refine w_iloadN X262 hx (hb hby at_46) (pc' := 47) rfl rfl ?_
      have f264 := V261.ext E262
      refine w_callS (argsL := [(.ref b261), (.int v71), (.int (4 : Int32)), (.int x2)]) (rest := []) X262 hx hZ hown e262 (rm1 l Z a0 hw b261 v71 (4 : Int32) x2 h262 n0 zn262 (0 : Int32) (0 : Int32) (0 : Int32) (0 : Int32) (0 : Int32) (0 : Int32) g_b261 f264) (hw _ (List.mem_of_getElem? (i := 1) rfl)) (hw _ (List.mem_of_getElem? (i := 2) rfl)) (hw _ (List.mem_of_getElem? (i := 3) rfl)) (hw _ (List.mem_of_getElem? (i := 4) rfl)) (by decide) (by decide) (W := 0) (by decide) (by decide) (by decide) (by rw [hml]; rfl) (lenOf pd_4 rfl) (Nat.le_refl _) rfl (hb hby at_47) (pc' := 50) rfl (fun T263 L263 v263 X263 hQ263 => ?_)
      obtain ⟨rfl, N263q, K263, V263⟩ := hQ263
      have zn263 : n0 ≤ T263.heap.size := Nat.le_trans zn262 K263.1
      have N263 := Fr.app N0 N263q
      have X263 : Stand p l e room_1 s m _ below meth c T263 _ 2 12 := X263
      rw [show (4 : Int32).toInt8.toInt32 = (4 : Int32) from by decide] at V263
      show Go p e below s room_1.cells room_1.slots (QL (some (.int 1)) n0) T263 (mkF m 50 #[.val (.int x0), .val (.int x1), .val (.int x2), .val (.int v71), .val (.int (4 : Int32)), .val (.ref b261), .val (.ref b262), .unset, .unset, .unset] [])
      refine w_aload X263 hx (hb hby at_50) (pc' := 52) rfl rfl rfl ?_
      refine w_iloadN X263 hx (hb hby at_52) (pc' := 53) rfl rfl ?_
      refine w_iload X263 hx (hb hby at_53) (pc' := 55) rfl rfl ?_
      refine w_iloadN X263 hx (hb hby at_55) (pc' := 56) rfl rfl ?_
      have f266 := V262.keep K263 (ninS (Ne.symm ne_b261_b262) nin0)
      refine w_callS (argsL := [(.ref b262), (.int v71), (.int (4 : Int32)), (.int x2)]) (rest := []) X263 hx hZ hown rfl (rm1 l Z a0 hw b262 v71 (4 : Int32) x2 T263.heap n0 zn263 (0 : Int32) (0 : Int32) (0 : Int32) (0 : Int32) (0 : Int32) (0 : Int32) g_b262 f266) (hw _ (List.mem_of_getElem? (i := 1) rfl)) (hw _ (List.mem_of_getElem? (i := 2) rfl)) (hw _ (List.mem_of_getElem? (i := 3) rfl)) (hw _ (List.mem_of_getElem? (i := 4) rfl)) (by decide) (by decide) (W := 0) (by decide) (by decide) (by decide) (by rw [hml]; rfl) (lenOf pd_4 rfl) (Nat.le_refl _) rfl (hb hby at_56) (pc' := 59) rfl (fun T265 L265 v265 X265 hQ265 => ?_)
      obtain ⟨rfl, N265q, K265, V265⟩ := hQ265
      have zn265 : n0 ≤ T265.heap.size := Nat.le_trans zn263 K265.1
      have N265 := Fr.app N263 N265q
      have X265 : Stand p l e room_1 s m _ below meth c T265 _ 2 12 := X265
      rw [show (4 : Int32).toInt8.toInt32 = (4 : Int32) from by decide] at V265
      show Go p e below s room_1.cells room_1.slots (QL (some (.int 1)) n0) T265 (mkF m 59 #[.val (.int x0), .val (.int x1), .val (.int x2), .val (.int v71), .val (.int (4 : Int32)), .val (.ref b261), .val (.ref b262), .unset, .unset, .unset] [])
      refine w_newO X265 hx hZ hown rfl (hw _ (List.mem_of_getElem? (i := 5) rfl)) (hw _ (List.mem_of_getElem? (i := 6) rfl)) (hw _ (List.mem_of_getElem? (i := 7) rfl)) (hb hby at_59) (by decide) (by decide) (pc' := 62) rfl (fun T267 h267 b267 X267 e267 E267 q267 A267 D267 => ?_)
      have g_b267 : n0 ≤ b267 := by rw [q267]; exact zn265
      have f268 := V263.keep K265 (ninS ne_b261_b262 nin0)
      have ne_b261_b267 : b261 ≠ b267 := by rw [q267]; exact Nat.ne_of_lt f268.lt
      have ne_b262_b267 : b262 ≠ b267 := by rw [q267]; exact Nat.ne_of_lt V265.lt
      have F_input_b267 : Fld Z h267 b267 "com/example/inwrap/inwrap/DerReader" "input" "[B" .null := D267 (Or.inr (hw _ (List.mem_of_getElem? (i := 18) rfl))) (ty := (.array .byte)) (by decide)
      have F_position_b267 : Fld Z h267 b267 "com/example/inwrap/inwrap/DerReader" "position" "I" (.int (0 : Int32)) := D267 (Or.inl (hw _ (List.mem_of_getElem? (i := 20) rfl))) (ty := .int) (by decide)
      have F_end_b267 : Fld Z h267 b267 "com/example/inwrap/inwrap/DerReader" "end" "I" (.int (0 : Int32)) := D267 (Or.inr (hw _ (List.mem_of_getElem? (i := 22) rfl))) (ty := .int) (by decide)
      have zn267 : n0 ≤ h267.size := Nat.le_trans zn265 E267.1
      refine w_dup X267 hx (hb hby at_62) (pc' := 63) rfl rfl ?_
      refine w_aload X267 hx (hb hby at_63) (pc' := 65) rfl rfl rfl ?_
      have f270 := f268.ext E267
      refine w_callI (argsL := [(.ref b261)]) (rest := [(.ref b267)]) (a := b267) X267 hx hZ hown e267 (rm2 l Z a0 hw b267 b261 h267 n0 zn267 A267 g_b267 F_input_b267 F_position_b267 F_end_b267 v71.toInt8.toInt32 (4 : Int32) x2.toInt8.toInt32 (jushr x2 (8 : Int32)).toInt8.toInt32 (jushr x2 (16 : Int32)).toInt8.toInt32 (jushr x2 (24 : Int32)).toInt8.toInt32 f270 ne_b261_b267) rfl (hw _ (List.mem_of_getElem? (i := 8) rfl)) (hw _ (List.mem_of_getElem? (i := 9) rfl)) (hw _ (List.mem_of_getElem? (i := 7) rfl)) (hw _ (List.mem_of_getElem? (i := 10) rfl)) (by decide) (by decide) (W := 1) (by decide) (by decide) (by decide) (by rw [hml]; rfl) (lenOf pd_5 rfl) (Nat.le_refl _) rfl (hb hby at_65) (pc' := 68) rfl (fun T269 L269 v269 X269 hQ269 => ?_)
      obtain ⟨rfl, N269q, K269, F_input_269, F_position_269, F_end_269⟩ := hQ269
      have zn269 : n0 ≤ T269.heap.size := Nat.le_trans zn267 K269.1
      have N269 := Fr.app N265 N269q
      have X269 : Stand p l e room_1 s m _ below meth c T269 _ 3 15 := X269
      show Go p e below s room_1.cells room_1.slots (QL (some (.int 1)) n0) T269 (mkF m 68 #[.val (.int x0), .val (.int x1), .val (.int x2), .val (.int v71), .val (.int (4 : Int32)), .val (.ref b261), .val (.ref b262), .unset, .unset, .unset] [(.ref b267)])
      refine w_astore (Ls' := #[.val (.int x0), .val (.int x1), .val (.int x2), .val (.int v71), .val (.int (4 : Int32)), .val (.ref b261), .val (.ref b262), .val (.ref b267), .unset, .unset]) X269 hx (hb hby at_68) (pc' := 70) rfl rfl rfl ?_
      refine w_aload X269 hx (hb hby at_70) (pc' := 72) rfl rfl rfl ?_
      have f272 := f270.keep K269 (ninS ne_b261_b267 nin0)
      have f273 := V265.ext E267
      have f274 := f273.keep K269 (ninS ne_b262_b267 nin0)
      have f275 := A267.keep K269
      refine w_callV (argsL := []) (rest := []) (a := b267) X269 hx hZ hown rfl f275 (rm5 l Z a0 hw b267 T269.heap n0 zn269 b261 [v71.toInt8.toInt32, (4 : Int32), x2.toInt8.toInt32, (jushr x2 (8 : Int32)).toInt8.toInt32, (jushr x2 (16 : Int32)).toInt8.toInt32, (jushr x2 (24 : Int32)).toInt8.toInt32] 0 6 F_input_269 F_position_269 F_end_269 f272 (own_fit6 (fits_nar_byte _) (by decide) (fits_nar_byte _) (fits_nar_byte _) (fits_nar_byte _) (fits_nar_byte _)) (by decide) (by show 0 ≤ 6; decide) (by decide) (by decide)) (hw _ (List.mem_of_getElem? (i := 23) rfl)) (hw _ (List.mem_of_getElem? (i := 24) rfl)) (hw _ (List.mem_of_getElem? (i := 26) rfl)) (hw _ (List.mem_of_getElem? (i := 25) rfl)) (hw _ (List.mem_of_getElem? (i := 7) rfl)) (hw _ (List.mem_of_getElem? (i := 27) rfl)) (by decide) (by decide) (W := 0) (by decide) (by decide) (by decide) (by rw [hml]; rfl) (lenOf pd_6 rfl) (Nat.le_refl _) rfl (hb hby at_72) (pc' := 75) rfl (fun T271 L271 v271 X271 hQ271 => ?_)
      obtain ⟨b271, rfl, N271q, K271, sz271, V271⟩ := hQ271
      have zn271 : n0 ≤ T271.heap.size := Nat.le_trans zn269 K271.1
      have g_b271 : n0 ≤ b271 := Nat.le_trans zn269 sz271
      have ne_b261_b271 : b261 ≠ b271 := Nat.ne_of_lt (Nat.lt_of_lt_of_le f272.lt sz271)
      have ne_b262_b271 : b262 ≠ b271 := Nat.ne_of_lt (Nat.lt_of_lt_of_le f274.lt sz271)
      have ne_b267_b271 : b267 ≠ b271 := Nat.ne_of_lt (Nat.lt_of_lt_of_le f275.lt sz271)
      have N271 := Fr.app N269 N271q
      have X271 : Stand p l e room_1 s m _ below meth c T271 _ 4 21 := X271
      have V271 : AI Z T271.heap b271 .byte [v71.toInt8.toInt32, (4 : Int32), x2.toInt8.toInt32, (jushr x2 (8 : Int32)).toInt8.toInt32, (jushr x2 (16 : Int32)).toInt8.toInt32, (jushr x2 (24 : Int32)).toInt8.toInt32] := V271
      show Go p e below s room_1.cells room_1.slots (QL (some (.int 1)) n0) T271 (mkF m 75 #[.val (.int x0), .val (.int x1), .val (.int x2), .val (.int v71), .val (.int (4 : Int32)), .val (.ref b261), .val (.ref b262), .val (.ref b267), .unset, .unset] [(.ref b271)])
      refine w_astore (Ls' := #[.val (.int x0), .val (.int x1), .val (.int x2), .val (.int v71), .val (.int (4 : Int32)), .val (.ref b261), .val (.ref b262), .val (.ref b267), .val (.ref b271), .unset]) X271 hx (hb hby at_75) (pc' := 77) rfl rfl rfl ?_
      refine w_aload X271 hx (hb hby at_77) (pc' := 79) rfl rfl rfl ?_
      refine w_aload X271 hx (hb hby at_79) (pc' := 81) rfl rfl rfl ?_
      refine w_iconst (v := 0) X271 hx (hb hby at_81) (pc' := 82) rfl rfl ?_
      refine w_bipush (v := 6) X271 hx (hb hby at_82) (pc' := 84) rfl rfl ?_
      have f277 := f274.keep K271 nin0
      refine w_callS (argsL := [(.ref b271), (.ref b262), (.int (0 : Int32)), (.int (6 : Int32))]) (rest := []) X271 hx hZ hown rfl (rm7 l Z a0 hw b271 b262 (0 : Int32) (6 : Int32) T271.heap n0 [v71.toInt8.toInt32, (4 : Int32), x2.toInt8.toInt32, (jushr x2 (8 : Int32)).toInt8.toInt32, (jushr x2 (16 : Int32)).toInt8.toInt32, (jushr x2 (24 : Int32)).toInt8.toInt32] [v71.toInt8.toInt32, (4 : Int32), x2.toInt8.toInt32, (jushr x2 (8 : Int32)).toInt8.toInt32, (jushr x2 (16 : Int32)).toInt8.toInt32, (jushr x2 (24 : Int32)).toInt8.toInt32] V271 f277 (own_okl (f := 0) (n := 6) rfl rfl (by decide))) (hw _ (List.mem_of_getElem? (i := 41) rfl)) (hw _ (List.mem_of_getElem? (i := 42) rfl)) (hw _ (List.mem_of_getElem? (i := 3) rfl)) (hw _ (List.mem_of_getElem? (i := 43) rfl)) (by decide) (by decide) (W := 0) (by decide) (by decide) (by decide) (by rw [hml]; rfl) (lenOf pd_3 rfl) (Nat.le_refl _) rfl (hb hby at_84) (pc' := 87) rfl (fun T276 L276 v276 X276 hQ276 => ?_)
      obtain ⟨rfl, N276q, e276⟩ := hQ276
      have N276 := Fr.app N271 N276q
      have X276 : Stand p l e room_1 s m _ below meth c T276 _ 4 21 := X276
      show Go p e below s room_1.cells room_1.slots (QL (some (.int 1)) n0) T276 (mkF m 87 #[.val (.int x0), .val (.int x1), .val (.int x2), .val (.int v71), .val (.int (4 : Int32)), .val (.ref b261), .val (.ref b262), .val (.ref b267), .val (.ref b271), .unset] [(.int (K7_0 [v71.toInt8.toInt32, (4 : Int32), x2.toInt8.toInt32, (jushr x2 (8 : Int32)).toInt8.toInt32, (jushr x2 (16 : Int32)).toInt8.toInt32, (jushr x2 (24 : Int32)).toInt8.toInt32] [v71.toInt8.toInt32, (4 : Int32), x2.toInt8.toInt32, (jushr x2 (8 : Int32)).toInt8.toInt32, (jushr x2 (16 : Int32)).toInt8.toInt32, (jushr x2 (24 : Int32)).toInt8.toInt32] (0 : Int32) (6 : Int32)))])
      have hf87 : ¬ ((K7_0 [v71.toInt8.toInt32, (4 : Int32), x2.toInt8.toInt32, (jushr x2 (8 : Int32)).toInt8.toInt32, (jushr x2 (16 : Int32)).toInt8.toInt32, (jushr x2 (24 : Int32)).toInt8.toInt32] [v71.toInt8.toInt32, (4 : Int32), x2.toInt8.toInt32, (jushr x2 (8 : Int32)).toInt8.toInt32, (jushr x2 (16 : Int32)).toInt8.toInt32, (jushr x2 (24 : Int32)).toInt8.toInt32] (0 : Int32) (6 : Int32)) = (0 : Int32)) := (by have hs := own_sl (gs := [v71.toInt8.toInt32, (4 : Int32), x2.toInt8.toInt32, (jushr x2 (8 : Int32)).toInt8.toInt32, (jushr x2 (16 : Int32)).toInt8.toInt32, (jushr x2 (24 : Int32)).toInt8.toInt32]) (es := [v71.toInt8.toInt32, (4 : Int32), x2.toInt8.toInt32, (jushr x2 (8 : Int32)).toInt8.toInt32, (jushr x2 (16 : Int32)).toInt8.toInt32, (jushr x2 (24 : Int32)).toInt8.toInt32]) (f := 0) (n := 6) rfl (by decide) (by intro i hi; have hq : i = 0 ∨ i = 1 ∨ i = 2 ∨ i = 3 ∨ i = 4 ∨ i = 5 := (by omega); rcases hq with rfl | rfl | rfl | rfl | rfl | rfl <;> rfl); intro hq; exact absurd (hs.symm.trans hq) (by decide))
      refine w_if_ne X276 hx (hb hby at_87) (pf := 90) (pt := 92) rfl (by decide) (by decide) (fun hc87 => ?_) (fun hc => absurd hc hf87)
      refine w_aload X276 hx (hb hby at_92) (pc' := 94) rfl rfl rfl ?_
      refine w_iconst (v := 5) X276 hx (hb hby at_94) (pc' := 95) rfl rfl ?_
      refine w_aload X276 hx (hb hby at_95) (pc' := 97) rfl rfl rfl ?_
      refine w_iconst (v := 5) X276 hx (hb hby at_97) (pc' := 98) rfl rfl ?_
      refine w_baload X276 hx hZ e276 V271 (v := (jushr x2 (24 : Int32)).toInt8.toInt32) (by decide) rfl (hb hby at_98) (pc' := 99) rfl ?_
      refine w_iconst (v := 1) X276 hx (hb hby at_99) (pc' := 100) rfl rfl ?_
      refine w_ixor X276 hx (hb hby at_100) (pc' := 101) rfl ?_
      refine w_i2b X276 hx (hb hby at_101) (pc' := 102) rfl ?_
      refine w_bastore X276 hx hZ e276 V271 (by decide) (by show _ < 6; decide) (hb hby at_102) (pc' := 103) rfl (fun T278 h278 X278 e278 W278 V278 => ?_)
      have qv278 : (nar .byte ((jushr x2 (24 : Int32)).toInt8.toInt32 ^^^ (1 : Int32)).toInt8.toInt32) = ((jushr x2 (24 : Int32)).toInt8.toInt32 ^^^ (1 : Int32)).toInt8.toInt32 := own_nb _
      rw [qv278] at V278
      have V278 : AI Z h278 b271 .byte [v71.toInt8.toInt32, (4 : Int32), x2.toInt8.toInt32, (jushr x2 (8 : Int32)).toInt8.toInt32, (jushr x2 (16 : Int32)).toInt8.toInt32, ((jushr x2 (24 : Int32)).toInt8.toInt32 ^^^ (1 : Int32)).toInt8.toInt32] := V278
      have N278 := Fr.snoc X278 N276 g_b271
      have zn278 : n0 ≤ h278.size := by rw [W278.size]; exact zn271
      refine w_aload X278 hx (hb hby at_103) (pc' := 105) rfl rfl rfl ?_
      have f280 := f275.keep K271
      have f281 := f280.wr W278
      have f282 := F_input_269.keep K271 nin0
      have f283 := f282.other W278 (Or.inl ne_b267_b271)
      have f284 := F_position_269.keep K271 nin0
      have f285 := f284.other W278 (Or.inl ne_b267_b271)
      have f286 := F_end_269.keep K271 nin0
      have f287 := f286.other W278 (Or.inl ne_b267_b271)
      have f288 := f272.keep K271 nin0
      have f289 := f288.other W278 ne_b261_b271
      have f290 := f277.other W278 ne_b262_b271
      refine w_callV (argsL := []) (rest := []) (a := b267) X278 hx hZ hown e278 f281 (rm9 l Z a0 hw b267 h278 n0 zn278 b261 v71.toInt8.toInt32 (4 : Int32) x2.toInt8.toInt32 (jushr x2 (8 : Int32)).toInt8.toInt32 (jushr x2 (16 : Int32)).toInt8.toInt32 (jushr x2 (24 : Int32)).toInt8.toInt32 f281 g_b267 f283 f285 f287 f289 ne_b261_b267 (own_tag ht1 hv71) (by decide)) (hw _ (List.mem_of_getElem? (i := 47) rfl)) (hw _ (List.mem_of_getElem? (i := 48) rfl)) (hw _ (List.mem_of_getElem? (i := 50) rfl)) (hw _ (List.mem_of_getElem? (i := 49) rfl)) (hw _ (List.mem_of_getElem? (i := 7) rfl)) (hw _ (List.mem_of_getElem? (i := 51) rfl)) (by decide) (by decide) (W := 0) (by decide) (by decide) (by decide) (by rw [hml]; rfl) (lenOf pd_7 rfl) (Nat.le_refl _) rfl (hb hby at_105) (pc' := 108) rfl (fun T279 L279 v279 X279 hQ279 => ?_)
      obtain ⟨b279, rfl, N279q, K279, sz279, E279, Finput_279, Fposition_279, Fend_279, Fop_279, Finputo_279, Fendo_279⟩ := hQ279
      have zn279 : n0 ≤ T279.heap.size := Nat.le_trans zn278 K279.1
      have g_b279 : n0 ≤ b279 := Nat.le_trans zn278 sz279
      have ne_b261_b279 : b261 ≠ b279 := Nat.ne_of_lt (Nat.lt_of_lt_of_le f289.lt sz279)
      have ne_b262_b279 : b262 ≠ b279 := Nat.ne_of_lt (Nat.lt_of_lt_of_le f290.lt sz279)
      have ne_b267_b279 : b267 ≠ b279 := Nat.ne_of_lt (Nat.lt_of_lt_of_le f281.lt sz279)
      have ne_b271_b279 : b271 ≠ b279 := Nat.ne_of_lt (Nat.lt_of_lt_of_le V278.lt sz279)
      have N279 := Fr.app N278 N279q
      have X279 : Stand p l e room_1 s m _ below meth c T279 _ 5 24 := X279
      rw [show ((2 : Int32) + ((4 : Int32) &&& (255 : Int32))) = (6 : Int32) from by decide] at Fend_279 Fop_279
      show Go p e below s room_1.cells room_1.slots (QL (some (.int 1)) n0) T279 (mkF m 108 #[.val (.int x0), .val (.int x1), .val (.int x2), .val (.int v71), .val (.int (4 : Int32)), .val (.ref b261), .val (.ref b262), .val (.ref b267), .val (.ref b271), .unset] [(.ref b279)])
      refine w_astore (Ls' := #[.val (.int x0), .val (.int x1), .val (.int x2), .val (.int v71), .val (.int (4 : Int32)), .val (.ref b261), .val (.ref b262), .val (.ref b267), .val (.ref b271), .val (.ref b279)]) X279 hx (hb hby at_108) (pc' := 110) rfl rfl rfl ?_
      refine w_aload X279 hx (hb hby at_110) (pc' := 112) rfl rfl rfl ?_
      have f292 := f289.keep K279 (ninS ne_b261_b267 nin0)
      have f293 := f290.keep K279 (ninS ne_b262_b267 nin0)
      have f294 := f281.keep K279
      have f295 := V278.keep K279 (ninS (Ne.symm ne_b267_b271) nin0)
      refine w_callV (argsL := []) (rest := []) (a := b279) X279 hx hZ hown rfl E279 (rm5 l Z a0 hw b279 T279.heap n0 zn279 b261 [v71.toInt8.toInt32, (4 : Int32), x2.toInt8.toInt32, (jushr x2 (8 : Int32)).toInt8.toInt32, (jushr x2 (16 : Int32)).toInt8.toInt32, (jushr x2 (24 : Int32)).toInt8.toInt32] 2 6 Finput_279 Fposition_279 Fend_279 f292 (own_fit6 (fits_nar_byte _) (by decide) (fits_nar_byte _) (fits_nar_byte _) (fits_nar_byte _) (fits_nar_byte _)) (by decide) (by show 2 ≤ 6; decide) (by decide) (by decide)) (hw _ (List.mem_of_getElem? (i := 23) rfl)) (hw _ (List.mem_of_getElem? (i := 24) rfl)) (hw _ (List.mem_of_getElem? (i := 26) rfl)) (hw _ (List.mem_of_getElem? (i := 25) rfl)) (hw _ (List.mem_of_getElem? (i := 7) rfl)) (hw _ (List.mem_of_getElem? (i := 27) rfl)) (by decide) (by decide) (W := 0) (by decide) (by decide) (by decide) (by rw [hml]; rfl) (lenOf pd_6 rfl) (Nat.le_refl _) rfl (hb hby at_112) (pc' := 115) rfl (fun T291 L291 v291 X291 hQ291 => ?_)
      obtain ⟨b291, rfl, N291q, K291, sz291, V291⟩ := hQ291
      have zn291 : n0 ≤ T291.heap.size := Nat.le_trans zn279 K291.1
      have g_b291 : n0 ≤ b291 := Nat.le_trans zn279 sz291
      have ne_b261_b291 : b261 ≠ b291 := Nat.ne_of_lt (Nat.lt_of_lt_of_le f292.lt sz291)
      have ne_b262_b291 : b262 ≠ b291 := Nat.ne_of_lt (Nat.lt_of_lt_of_le f293.lt sz291)
      have ne_b267_b291 : b267 ≠ b291 := Nat.ne_of_lt (Nat.lt_of_lt_of_le f294.lt sz291)
      have ne_b271_b291 : b271 ≠ b291 := Nat.ne_of_lt (Nat.lt_of_lt_of_le f295.lt sz291)
      have ne_b279_b291 : b279 ≠ b291 := Nat.ne_of_lt (Nat.lt_of_lt_of_le E279.lt sz291)
      have N291 := Fr.app N279 N291q
      have X291 : Stand p l e room_1 s m _ below meth c T291 _ 6 30 := X291
      have V291 : AI Z T291.heap b291 .byte [x2.toInt8.toInt32, (jushr x2 (8 : Int32)).toInt8.toInt32, (jushr x2 (16 : Int32)).toInt8.toInt32, (jushr x2 (24 : Int32)).toInt8.toInt32] := V291
      show Go p e below s room_1.cells room_1.slots (QL (some (.int 1)) n0) T291 (mkF m 115 #[.val (.int x0), .val (.int x1), .val (.int x2), .val (.int v71), .val (.int (4 : Int32)), .val (.ref b261), .val (.ref b262), .val (.ref b267), .val (.ref b271), .val (.ref b279)] [(.ref b291)])
      refine w_aload X291 hx (hb hby at_115) (pc' := 117) rfl rfl rfl ?_
      refine w_iconst (v := 2) X291 hx (hb hby at_117) (pc' := 118) rfl rfl ?_
      refine w_iconst (v := 2) X291 hx (hb hby at_118) (pc' := 119) rfl rfl ?_
      refine w_iload X291 hx (hb hby at_119) (pc' := 121) rfl rfl ?_
      refine w_iadd X291 hx (hb hby at_121) (pc' := 122) rfl ?_
      rw [show ((2 : Int32) + (4 : Int32)) = (6 : Int32) from by decide]
      have f297 := f293.keep K291 nin0
      refine w_callS (argsL := [(.ref b291), (.ref b262), (.int (2 : Int32)), (.int (6 : Int32))]) (rest := []) X291 hx hZ hown rfl (rm7 l Z a0 hw b291 b262 (2 : Int32) (6 : Int32) T291.heap n0 [x2.toInt8.toInt32, (jushr x2 (8 : Int32)).toInt8.toInt32, (jushr x2 (16 : Int32)).toInt8.toInt32, (jushr x2 (24 : Int32)).toInt8.toInt32] [v71.toInt8.toInt32, (4 : Int32), x2.toInt8.toInt32, (jushr x2 (8 : Int32)).toInt8.toInt32, (jushr x2 (16 : Int32)).toInt8.toInt32, (jushr x2 (24 : Int32)).toInt8.toInt32] V291 f297 (own_okl (f := 2) (n := 4) rfl rfl (by decide))) (hw _ (List.mem_of_getElem? (i := 41) rfl)) (hw _ (List.mem_of_getElem? (i := 42) rfl)) (hw _ (List.mem_of_getElem? (i := 3) rfl)) (hw _ (List.mem_of_getElem? (i := 43) rfl)) (by decide) (by decide) (W := 0) (by decide) (by decide) (by decide) (by rw [hml]; rfl) (lenOf pd_3 rfl) (Nat.le_refl _) rfl (hb hby at_122) (pc' := 125) rfl (fun T296 L296 v296 X296 hQ296 => ?_)
      obtain ⟨rfl, N296q, e296⟩ := hQ296
      have N296 := Fr.app N291 N296q
      have X296 : Stand p l e room_1 s m _ below meth c T296 _ 6 30 := X296
      show Go p e below s room_1.cells room_1.slots (QL (some (.int 1)) n0) T296 (mkF m 125 #[.val (.int x0), .val (.int x1), .val (.int x2), .val (.int v71), .val (.int (4 : Int32)), .val (.ref b261), .val (.ref b262), .val (.ref b267), .val (.ref b271), .val (.ref b279)] [(.int (K7_0 [x2.toInt8.toInt32, (jushr x2 (8 : Int32)).toInt8.toInt32, (jushr x2 (16 : Int32)).toInt8.toInt32, (jushr x2 (24 : Int32)).toInt8.toInt32] [v71.toInt8.toInt32, (4 : Int32), x2.toInt8.toInt32, (jushr x2 (8 : Int32)).toInt8.toInt32, (jushr x2 (16 : Int32)).toInt8.toInt32, (jushr x2 (24 : Int32)).toInt8.toInt32] (2 : Int32) (6 : Int32)))])
      have hf125 : ¬ ((K7_0 [x2.toInt8.toInt32, (jushr x2 (8 : Int32)).toInt8.toInt32, (jushr x2 (16 : Int32)).toInt8.toInt32, (jushr x2 (24 : Int32)).toInt8.toInt32] [v71.toInt8.toInt32, (4 : Int32), x2.toInt8.toInt32, (jushr x2 (8 : Int32)).toInt8.toInt32, (jushr x2 (16 : Int32)).toInt8.toInt32, (jushr x2 (24 : Int32)).toInt8.toInt32] (2 : Int32) (6 : Int32)) = (0 : Int32)) := (by have hs := own_sl (gs := [x2.toInt8.toInt32, (jushr x2 (8 : Int32)).toInt8.toInt32, (jushr x2 (16 : Int32)).toInt8.toInt32, (jushr x2 (24 : Int32)).toInt8.toInt32]) (es := [v71.toInt8.toInt32, (4 : Int32), x2.toInt8.toInt32, (jushr x2 (8 : Int32)).toInt8.toInt32, (jushr x2 (16 : Int32)).toInt8.toInt32, (jushr x2 (24 : Int32)).toInt8.toInt32]) (f := 2) (n := 4) rfl (by decide) (by intro i hi; have hq : i = 0 ∨ i = 1 ∨ i = 2 ∨ i = 3 := (by omega); rcases hq with rfl | rfl | rfl | rfl <;> rfl); intro hq; exact absurd (hs.symm.trans hq) (by decide))
      refine w_if_eq X296 hx (hb hby at_125) (pf := 128) (pt := 151) rfl (by decide) (by decide) (fun hc => absurd hc hf125) (fun hc125 => ?_)
      refine w_aload X296 hx (hb hby at_128) (pc' := 130) rfl rfl rfl ?_
      have f299 := Finputo_279.keep K291 nin0
      have f300 := Fop_279.keep K291 nin0
      have f301 := Fendo_279.keep K291 nin0
      have f302 := f292.keep K291 nin0
      have f303 := f294.keep K291
      have f304 := f295.keep K291 nin0
      have f305 := E279.keep K291
      refine w_callV (argsL := []) (rest := []) (a := b267) X296 hx hZ hown e296 f303 (rm5 l Z a0 hw b267 T291.heap n0 zn291 b261 [v71.toInt8.toInt32, (4 : Int32), x2.toInt8.toInt32, (jushr x2 (8 : Int32)).toInt8.toInt32, (jushr x2 (16 : Int32)).toInt8.toInt32, (jushr x2 (24 : Int32)).toInt8.toInt32] 6 6 f299 f300 f301 f302 (own_fit6 (fits_nar_byte _) (by decide) (fits_nar_byte _) (fits_nar_byte _) (fits_nar_byte _) (fits_nar_byte _)) (by decide) (by show 6 ≤ 6; decide) (by decide) (by decide)) (hw _ (List.mem_of_getElem? (i := 23) rfl)) (hw _ (List.mem_of_getElem? (i := 24) rfl)) (hw _ (List.mem_of_getElem? (i := 26) rfl)) (hw _ (List.mem_of_getElem? (i := 25) rfl)) (hw _ (List.mem_of_getElem? (i := 7) rfl)) (hw _ (List.mem_of_getElem? (i := 27) rfl)) (by decide) (by decide) (W := 0) (by decide) (by decide) (by decide) (by rw [hml]; rfl) (lenOf pd_6 rfl) (Nat.le_refl _) rfl (hb hby at_130) (pc' := 133) rfl (fun T298 L298 v298 X298 hQ298 => ?_)
      obtain ⟨b298, rfl, N298q, K298, sz298, V298⟩ := hQ298
      have zn298 : n0 ≤ T298.heap.size := Nat.le_trans zn291 K298.1
      have g_b298 : n0 ≤ b298 := Nat.le_trans zn291 sz298
      have ne_b261_b298 : b261 ≠ b298 := Nat.ne_of_lt (Nat.lt_of_lt_of_le f302.lt sz298)
      have ne_b262_b298 : b262 ≠ b298 := Nat.ne_of_lt (Nat.lt_of_lt_of_le f297.lt sz298)
      have ne_b267_b298 : b267 ≠ b298 := Nat.ne_of_lt (Nat.lt_of_lt_of_le f303.lt sz298)
      have ne_b271_b298 : b271 ≠ b298 := Nat.ne_of_lt (Nat.lt_of_lt_of_le f304.lt sz298)
      have ne_b279_b298 : b279 ≠ b298 := Nat.ne_of_lt (Nat.lt_of_lt_of_le f305.lt sz298)
      have ne_b291_b298 : b291 ≠ b298 := Nat.ne_of_lt (Nat.lt_of_lt_of_le V291.lt sz298)
      have N298 := Fr.app N296 N298q
      have X298 : Stand p l e room_1 s m _ below meth c T298 _ 7 36 := X298
      have V298 : AI Z T298.heap b298 .byte [] := V298
      show Go p e below s room_1.cells room_1.slots (QL (some (.int 1)) n0) T298 (mkF m 133 #[.val (.int x0), .val (.int x1), .val (.int x2), .val (.int v71), .val (.int (4 : Int32)), .val (.ref b261), .val (.ref b262), .val (.ref b267), .val (.ref b271), .val (.ref b279)] [(.ref b298)])
      refine w_aload X298 hx (hb hby at_133) (pc' := 135) rfl rfl rfl ?_
      refine w_iconst (v := 2) X298 hx (hb hby at_135) (pc' := 136) rfl rfl ?_
      refine w_iload X298 hx (hb hby at_136) (pc' := 138) rfl rfl ?_
      refine w_iadd X298 hx (hb hby at_138) (pc' := 139) rfl ?_
      rw [show ((2 : Int32) + (4 : Int32)) = (6 : Int32) from by decide]
      refine w_bipush (v := 6) X298 hx (hb hby at_139) (pc' := 141) rfl rfl ?_
      have f307 := f297.keep K298 nin0
      refine w_callS (argsL := [(.ref b298), (.ref b262), (.int (6 : Int32)), (.int (6 : Int32))]) (rest := []) X298 hx hZ hown rfl (rm7 l Z a0 hw b298 b262 (6 : Int32) (6 : Int32) T298.heap n0 [] [v71.toInt8.toInt32, (4 : Int32), x2.toInt8.toInt32, (jushr x2 (8 : Int32)).toInt8.toInt32, (jushr x2 (16 : Int32)).toInt8.toInt32, (jushr x2 (24 : Int32)).toInt8.toInt32] V298 f307 (own_okl (f := 6) (n := 0) rfl rfl (by decide))) (hw _ (List.mem_of_getElem? (i := 41) rfl)) (hw _ (List.mem_of_getElem? (i := 42) rfl)) (hw _ (List.mem_of_getElem? (i := 3) rfl)) (hw _ (List.mem_of_getElem? (i := 43) rfl)) (by decide) (by decide) (W := 0) (by decide) (by decide) (by decide) (by rw [hml]; rfl) (lenOf pd_3 rfl) (Nat.le_refl _) rfl (hb hby at_141) (pc' := 144) rfl (fun T306 L306 v306 X306 hQ306 => ?_)
      obtain ⟨rfl, N306q, e306⟩ := hQ306
      have N306 := Fr.app N298 N306q
      have X306 : Stand p l e room_1 s m _ below meth c T306 _ 7 36 := X306
      show Go p e below s room_1.cells room_1.slots (QL (some (.int 1)) n0) T306 (mkF m 144 #[.val (.int x0), .val (.int x1), .val (.int x2), .val (.int v71), .val (.int (4 : Int32)), .val (.ref b261), .val (.ref b262), .val (.ref b267), .val (.ref b271), .val (.ref b279)] [(.int (K7_0 [] [v71.toInt8.toInt32, (4 : Int32), x2.toInt8.toInt32, (jushr x2 (8 : Int32)).toInt8.toInt32, (jushr x2 (16 : Int32)).toInt8.toInt32, (jushr x2 (24 : Int32)).toInt8.toInt32] (6 : Int32) (6 : Int32)))])
      have hf144 : ¬ ((K7_0 [] [v71.toInt8.toInt32, (4 : Int32), x2.toInt8.toInt32, (jushr x2 (8 : Int32)).toInt8.toInt32, (jushr x2 (16 : Int32)).toInt8.toInt32, (jushr x2 (24 : Int32)).toInt8.toInt32] (6 : Int32) (6 : Int32)) = (0 : Int32)) := (by have hs := own_sl (gs := []) (es := [v71.toInt8.toInt32, (4 : Int32), x2.toInt8.toInt32, (jushr x2 (8 : Int32)).toInt8.toInt32, (jushr x2 (16 : Int32)).toInt8.toInt32, (jushr x2 (24 : Int32)).toInt8.toInt32]) (f := 6) (n := 0) rfl (by decide) (fun i hi => absurd hi (by omega)); intro hq; exact absurd (hs.symm.trans hq) (by decide))
      refine w_if_eq X306 hx (hb hby at_144) (pf := 147) (pt := 151) rfl (by decide) (by decide) (fun hc => absurd hc hf144) (fun hc144 => ?_)
      refine w_iconst (v := 1) X306 hx (hb hby at_147) (pc' := 148) rfl rfl ?_
      refine w_goto X306 hx (hb hby at_148) (pc' := 152) (by decide) (by decide) ?_
      exact w_retZ X306 hx hret hlk (hb hby at_152) (by decide) (by decide) ⟨rfl, N306⟩
  refine w_icmp_ne X hx (hb hby at_12) (pf := 15) (pt := 21) rfl (by decide) (by decide) (fun hc12 => ?_) (fun hc12 => ?_)
  · exact J21_72 (t1) (by rw [if_neg (show ¬ ((t1 &&& (31 : Int32)) = (31 : Int32)) from (by assumption))])
  · refine w_iloadN X hx (hb hby at_15) (pc' := 16) rfl rfl ?_
    refine w_sipush (v := 254) X hx (hb hby at_16) (pc' := 19) rfl rfl ?_
    refine w_iand X hx (hb hby at_19) (pc' := 20) rfl ?_
    refine w_istoreN (Ls' := #[.val (.int x0), .val (.int x1), .val (.int x2), .val (.int (t1 &&& (254 : Int32))), .unset, .unset, .unset, .unset, .unset, .unset]) X hx (hb hby at_20) (pc' := 21) rfl rfl ?_
    exact J21_72 ((t1 &&& (254 : Int32))) (by rw [if_pos (show (t1 &&& (31 : Int32)) = (31 : Int32) from (by assumption))])
set_option maxRecDepth 65536 in
set_option maxHeartbeats 40000000 in
theorem comes_1 {Post : Tables → Env → Array Value → State → Outcome → State → Prop} (hpost : ∀ tb e args s v u, (limb_1_1.after args s (.returned v) u = true ∧ limb_1_2.after args s (.returned v) u = true ∧ True) → FrameEnd s (.returned v) u (Jvm.fieldLocs frame_1_writes args s ++ Jvm.arrayLocs frame_1_arrays args s ++ Jvm.staticLocs frame_1_statics s) 24 128 → Post tb e args s (.returned v) u) :
    ArmFor flags0 classFile x code maxLocals ret World_1 tables_1 room_1 Calls_1 rest_1 Pre_1 Post := by
  intro l hfl _ _ p e ha hc hk s m args below hf hA hF happ hP
  obtain ⟨hcalls, hrest, hpre⟩ := hP
  obtain ⟨-, -, -, hnamed, -, -, -, hat⟩ := (Spec.applies_iff hf).mp happ
  obtain ⟨hg, hn⟩ := and_e (Cond.before_iff.mp (show (Jvm.Cond.and given_1 narrow_1).before args s = true from hpre))
  obtain ⟨g1, g2⟩ := and_e hg
  obtain ⟨g3, g4⟩ := and_e g2
  obtain ⟨g5, g6⟩ := and_e g4
  obtain ⟨w0, w1, w2, rfl⟩ : ∃ w0 w1 w2 : Value, args = #[w0, w1, w2] := by
    have hs : args.size = 3 := by simpa [Cond.value, given_1] using g1
    obtain ⟨L⟩ := args
    match L, hs with
    | [w0, w1, w2], _ => exact ⟨w0, w1, w2, rfl⟩
  have hw := fun d (hd : d ∈ tables_1) => atoms_spec (ws := Jvm.Cond.code x code maxLocals ret :: tables_1) hat d (List.mem_cons_of_mem _ hd)
  obtain ⟨i0, ei0⟩ := is_v g3
  obtain rfl : w0 = (.int i0) := Option.some.inj ei0
  obtain ⟨i1, ei1⟩ := is_v g5
  obtain rfl : w1 = (.int i1) := Option.some.inj ei1
  obtain ⟨i2, ei2⟩ := is_v g6
  obtain rfl : w2 = (.int i2) := Option.some.inj ei2
  have C := rm0 l s _ hw i0 i1 i2 s.heap s.heap.size (Nat.le_refl _)
  obtain ⟨n, o, h1, h2, h3, v, L, rfl, ⟨rfl, N⟩, hq⟩ := C tables_1 p e ha hc hk s m _ below hf ((Spec.applies_iff_loose hf).mp happ).1 ⟨rfl, State.Warmed39.refl s, rfl⟩ trivial
  refine ⟨n, _, h1, h2, h3, hpost _ _ _ _ _ _ ⟨Cond.after_iff.mpr rfl, Cond.after_iff.mpr (eq_i res_at (Term.int_eval (1)) rfl), trivial⟩ ⟨hq.1, hq.2.1, (hq.2.2.sift fun y hy => Or.inr (N y hy)).mono (by decide) (by decide)⟩⟩
theorem main_1_1 : Claimed_1_1 := comes_1 fun _ _ _ _ _ _ h hF => ⟨h.1, hF⟩
theorem main_1_2 : Claimed_1_2 := comes_1 fun _ _ _ _ _ _ h hF => ⟨h.2.1, hF⟩
end Jvm.Pilot.@@N@@
namespace Jvm.Pilot.@@N@@
open Jvm Jvm.ClassFile Sem Op Lib Jvm.Free Jvm.Stand Jvm.Pilot.@@N@@.Jvm.D
/-! MADE BY PROGRAM (witnessworld.py) out of the Statement's table words and the real class files: 12 classes; the members and pool entries that the words name. The judged class is class 1, her method 1. -/
namespace start1
open Jvm.ClassFile
def u (s : String) : CpInfo := .utf8 (stringToUtf16 s)
/-- a pool by its gaps: so many unusable entries, then the entry; so many at the end -/
def gap : Nat → List CpInfo → List CpInfo
  | 0, r => r
  | n + 1, r => .unusable :: gap n r
def poolList (es : List (Nat × CpInfo)) (last : Nat) : List CpInfo := es.foldr (fun e r => gap e.1 (e.2 :: r)) (gap last [])
def pool (es : List (Nat × CpInfo)) (last : Nat) : Array CpInfo := ⟨poolList es last⟩
def fileOf (pool : Array CpInfo) (this : Nat) (attrs : Array Attribute := #[]) (ms : Array MethodInfo := #[]) (fl : Nat := 33) (sup : Nat := 0) (ifs : Array Nat := #[]) (fds : Array FieldInfo := #[]) : ClassFile where
  minorVersion := 0
  majorVersion := 65
  constantPool := pool
  accessFlags := fl
  thisClass := this
  superClass := sup
  interfaces := ifs
  fields := fds
  methods := ms
  attributes := attrs
def plain (name : String) (sup : Option ClassId) : Class where
  name := name
  kind := .ordinary
  loader := none
  accessFlags := 33
  super := sup
  interfaces := #[]
  cf := none
  fields := #[]
  methods := #[]
  instanceTypes := #[]
  staticTypes := #[]
  resolved := #[]
  callSites := []
  init := .initialized
  statics := none
  mirror := none

def pool0 : Array CpInfo := pool [(5, u "<init>"), (0, u "()V"), (1, .class_ 10), (1, u "java/lang/Object"), (85, u "clone"), (0, u "()Ljava/lang/Object;")] 26

def k0c0 : Code := { maxStack := 0, maxLocals := 1, code := object_method_1_code, exceptionTable := #[], attributes := #[] }
def k0m0 : Method := { name := "<init>", desc := "()V", sig := { parameters := [], returnType := none }, accessFlags := 1, code := some k0c0 }
def k0m1 : Method := { name := "clone", desc := "()Ljava/lang/Object;", sig := { parameters := [], returnType := some (.object "java/lang/Object") }, accessFlags := 260, code := none }
/-- java/lang/Object -/
def k0 : Class := { plain "java/lang/Object" none with
  accessFlags := 33
  interfaces := #[]
  cf := some (fileOf pool0 8 #[] #[{ accessFlags := 1, nameIndex := 5, descriptorIndex := 6, attributes := #[] }, { accessFlags := 260, nameIndex := 96, descriptorIndex := 97, attributes := #[] }] 33 0 #[] #[])
  fields := #[]
  methods := #[k0m0, k0m1]
  instanceTypes := #[]
  staticTypes := #[]
  resolved := Array.replicate 124 none
  statics := none }

def pool1 : Array CpInfo := pool [(2, .class_ 4), (1, u "java/lang/Object"), (0, u "<init>"), (0, u "()V"), (0, .methodref 8 9), (0, .class_ 10), (0, .nameAndType 11 12), (0, u "com/example/inwrap/inwrap/DerReaderRemainingPinLaw"), (0, u "fill"), (0, u "([BIII)V"), (0, .class_ 14), (0, u "com/example/inwrap/inwrap/DerReader"), (0, .methodref 13 16), (0, .nameAndType 5 17), (0, u "([B)V"), (0, .methodref 13 19), (0, .nameAndType 20 21), (0, u "remaining"), (0, u "()[B"), (0, .methodref 8 23), (0, .nameAndType 24 25), (0, u "slice"), (0, u "([B[BII)Z"), (0, .methodref 13 27), (0, .nameAndType 28 29), (0, u "readAny"), (0, u "()Lcom/example/inwrap/inwrap/DerReader;"), (0, .methodref 8 31), (0, .nameAndType 32 25), (0, u "at"), (2, u "law"), (0, u "(III)Z")] 5

def k1m0 : Method := { name := "<init>", desc := "()V", sig := { parameters := [], returnType := none }, accessFlags := 1, code := none }
def k1c1 : Code := { maxStack := 5, maxLocals := 10, code := code, exceptionTable := #[], attributes := #[] }
def k1m1 : Method := { name := "law", desc := "(III)Z", sig := { parameters := [.int, .int, .int], returnType := some .boolean }, accessFlags := 9, code := some k1c1 }
def k1c2 : Code := { maxStack := 4, maxLocals := 4, code := method_3_code, exceptionTable := #[], attributes := #[] }
def k1m2 : Method := { name := "fill", desc := "([BIII)V", sig := { parameters := [(.array .byte), .int, .int, .int], returnType := none }, accessFlags := 10, code := some k1c2 }
def k1c3 : Code := { maxStack := 5, maxLocals := 5, code := method_4_code, exceptionTable := #[], attributes := #[] }
def k1m3 : Method := { name := "slice", desc := "([B[BII)Z", sig := { parameters := [(.array .byte), (.array .byte), .int, .int], returnType := some .boolean }, accessFlags := 10, code := some k1c3 }
def k1c4 : Code := { maxStack := 4, maxLocals := 4, code := method_5_code, exceptionTable := #[], attributes := #[] }
def k1m4 : Method := { name := "at", desc := "([B[BII)Z", sig := { parameters := [(.array .byte), (.array .byte), .int, .int], returnType := some .boolean }, accessFlags := 10, code := some k1c4 }
/-- com/example/inwrap/inwrap/DerReaderRemainingPinLaw -/
def k1 : Class := { plain "com/example/inwrap/inwrap/DerReaderRemainingPinLaw" (some 0) with
  accessFlags := 49
  interfaces := #[]
  cf := some (fileOf pool1 8 #[] #[{ accessFlags := 1, nameIndex := 5, descriptorIndex := 6, attributes := #[] }, { accessFlags := 9, nameIndex := 35, descriptorIndex := 36, attributes := #[] }, { accessFlags := 10, nameIndex := 11, descriptorIndex := 12, attributes := #[] }, { accessFlags := 10, nameIndex := 24, descriptorIndex := 25, attributes := #[] }, { accessFlags := 10, nameIndex := 32, descriptorIndex := 25, attributes := #[] }] 49 2 #[] #[])
  fields := #[]
  methods := #[k1m0, k1m1, k1m2, k1m3, k1m4]
  instanceTypes := #[]
  staticTypes := #[]
  resolved := Array.replicate 42 none
  statics := none }

def pool2 : Array CpInfo := pool [(1, .methodref 2 3), (0, .class_ 4), (0, .nameAndType 5 6), (0, u "com/example/inwrap/inwrap/DerReader"), (0, u "<init>"), (0, u "([BII)V"), (0, .methodref 8 9), (0, .class_ 10), (0, .nameAndType 5 11), (0, u "java/lang/Object"), (0, u "()V"), (0, .fieldref 2 13), (0, .nameAndType 14 15), (0, u "input"), (0, u "[B"), (0, .fieldref 2 17), (0, .nameAndType 18 19), (0, u "position"), (0, u "I"), (0, .fieldref 2 21), (0, .nameAndType 22 19), (0, u "end"), (0, .methodref 2 24), (0, .nameAndType 25 26), (0, u "atEnd"), (0, u "()Z"), (9, .methodref 2 37), (0, .nameAndType 38 39), (0, u "peekTag"), (0, u "()I"), (8, u "readAny"), (0, u "()Lcom/example/inwrap/inwrap/DerReader;"), (6, .long 128), (5, .methodref 63 64), (0, .class_ 65), (0, .nameAndType 66 67), (0, u "java/util/Arrays"), (0, u "copyOfRange"), (0, u "([BII)[B"), (9, u "NAMES"), (0, u "Ljava/util/Map;"), (50, u "BOOLEAN"), (2, u "INTEGER"), (1, u "OCTET_STRING"), (1, u "OBJECT_IDENTIFIER"), (1, u "UTF8_STRING"), (1, u "UTC_TIME"), (1, u "GENERALIZED_TIME"), (1, u "SEQUENCE"), (1, u "CONTEXT_0"), (1, u "HIGH_TAG_NUMBER"), (1, u "MAX_LENGTH_BYTES"), (2, u "([B)V"), (5, u "remaining"), (0, u "()[B")] 35

def k2c0 : Code := { maxStack := 4, maxLocals := 2, code := prog_5_method_1_code, exceptionTable := #[], attributes := #[] }
def k2m0 : Method := { name := "<init>", desc := "([B)V", sig := { parameters := [(.array .byte)], returnType := none }, accessFlags := 0, code := some k2c0 }
def k2c1 : Code := { maxStack := 2, maxLocals := 4, code := prog_5_method_2_code, exceptionTable := #[], attributes := #[] }
def k2m1 : Method := { name := "<init>", desc := "([BII)V", sig := { parameters := [(.array .byte), .int, .int], returnType := none }, accessFlags := 2, code := some k2c1 }
def k2c2 : Code := { maxStack := 2, maxLocals := 1, code := prog_5_method_3_code, exceptionTable := #[], attributes := #[] }
def k2m2 : Method := { name := "atEnd", desc := "()Z", sig := { parameters := [], returnType := some .boolean }, accessFlags := 0, code := some k2c2 }
def k2c3 : Code := { maxStack := 3, maxLocals := 1, code := prog_5_method_4_code, exceptionTable := #[], attributes := #[] }
def k2m3 : Method := { name := "peekTag", desc := "()I", sig := { parameters := [], returnType := some .int }, accessFlags := 0, code := some k2c3 }
def k2c4 : Code := { maxStack := 7, maxLocals := 8, code := prog_5_method_6_code, exceptionTable := #[], attributes := #[] }
def k2m4 : Method := { name := "readAny", desc := "()Lcom/example/inwrap/inwrap/DerReader;", sig := { parameters := [], returnType := some (.object "com/example/inwrap/inwrap/DerReader") }, accessFlags := 0, code := some k2c4 }
def k2c5 : Code := { maxStack := 3, maxLocals := 1, code := prog_5_method_7_code, exceptionTable := #[], attributes := #[] }
def k2m5 : Method := { name := "remaining", desc := "()[B", sig := { parameters := [], returnType := some (.array .byte) }, accessFlags := 0, code := some k2c5 }
/-- com/example/inwrap/inwrap/DerReader -/
def k2 : Class := { plain "com/example/inwrap/inwrap/DerReader" (some 0) with
  accessFlags := 48
  interfaces := #[]
  cf := some (fileOf pool2 2 #[] #[{ accessFlags := 0, nameIndex := 5, descriptorIndex := 153, attributes := #[] }, { accessFlags := 2, nameIndex := 5, descriptorIndex := 6, attributes := #[] }, { accessFlags := 0, nameIndex := 25, descriptorIndex := 26, attributes := #[] }, { accessFlags := 0, nameIndex := 38, descriptorIndex := 39, attributes := #[] }, { accessFlags := 0, nameIndex := 48, descriptorIndex := 49, attributes := #[] }, { accessFlags := 0, nameIndex := 159, descriptorIndex := 160, attributes := #[] }] 48 8 #[] #[{ accessFlags := 24, nameIndex := 129, descriptorIndex := 19, attributes := #[] }, { accessFlags := 24, nameIndex := 132, descriptorIndex := 19, attributes := #[] }, { accessFlags := 24, nameIndex := 134, descriptorIndex := 19, attributes := #[] }, { accessFlags := 24, nameIndex := 136, descriptorIndex := 19, attributes := #[] }, { accessFlags := 24, nameIndex := 138, descriptorIndex := 19, attributes := #[] }, { accessFlags := 24, nameIndex := 140, descriptorIndex := 19, attributes := #[] }, { accessFlags := 24, nameIndex := 142, descriptorIndex := 19, attributes := #[] }, { accessFlags := 24, nameIndex := 144, descriptorIndex := 19, attributes := #[] }, { accessFlags := 24, nameIndex := 146, descriptorIndex := 19, attributes := #[] }, { accessFlags := 26, nameIndex := 148, descriptorIndex := 19, attributes := #[] }, { accessFlags := 26, nameIndex := 150, descriptorIndex := 19, attributes := #[] }, { accessFlags := 26, nameIndex := 77, descriptorIndex := 78, attributes := #[] }, { accessFlags := 18, nameIndex := 14, descriptorIndex := 15, attributes := #[] }, { accessFlags := 18, nameIndex := 22, descriptorIndex := 19, attributes := #[] }, { accessFlags := 2, nameIndex := 18, descriptorIndex := 19, attributes := #[] }])
  fields := #[{ name := "BOOLEAN", type := .int, accessFlags := 24, slot := 0, constantValue := 0 }, { name := "INTEGER", type := .int, accessFlags := 24, slot := 1, constantValue := 0 }, { name := "OCTET_STRING", type := .int, accessFlags := 24, slot := 2, constantValue := 0 }, { name := "OBJECT_IDENTIFIER", type := .int, accessFlags := 24, slot := 3, constantValue := 0 }, { name := "UTF8_STRING", type := .int, accessFlags := 24, slot := 4, constantValue := 0 }, { name := "UTC_TIME", type := .int, accessFlags := 24, slot := 5, constantValue := 0 }, { name := "GENERALIZED_TIME", type := .int, accessFlags := 24, slot := 6, constantValue := 0 }, { name := "SEQUENCE", type := .int, accessFlags := 24, slot := 7, constantValue := 0 }, { name := "CONTEXT_0", type := .int, accessFlags := 24, slot := 8, constantValue := 0 }, { name := "HIGH_TAG_NUMBER", type := .int, accessFlags := 26, slot := 9, constantValue := 0 }, { name := "MAX_LENGTH_BYTES", type := .int, accessFlags := 26, slot := 10, constantValue := 0 }, { name := "NAMES", type := (.object "java/util/Map"), accessFlags := 26, slot := 11, constantValue := 0 }, { name := "input", type := (.array .byte), accessFlags := 18, slot := 0, constantValue := 0 }, { name := "end", type := .int, accessFlags := 18, slot := 1, constantValue := 0 }, { name := "position", type := .int, accessFlags := 2, slot := 2, constantValue := 0 }]
  methods := #[k2m0, k2m1, k2m2, k2m3, k2m4, k2m5]
  instanceTypes := #[(.array .byte), .int, .int]
  staticTypes := #[.int, .int, .int, .int, .int, .int, .int, .int, .int, .int, .int, (.object "java/util/Map")]
  resolved := Array.replicate 196 none
  statics := none }

def pool3 : Array CpInfo := pool [(2, .class_ 4), (1, u "java/lang/Object"), (0, u "<init>"), (0, u "()V"), (7, .class_ 16), (1, u "java/util/Arrays"), (57, .class_ 76), (1, u "java/util/Arrays$NaturalOrder"), (32, u "()Ljava/lang/Object;"), (3, .class_ 115), (1, u "java/util/Arrays$LegacyMergeSort"), (1, u "Z"), (10, .nameAndType 129 109), (0, u "clone"), (9, u "copyOfRange"), (10, .methodref 151 152), (0, .class_ 153), (0, .nameAndType 154 155), (0, u "java/lang/System"), (0, u "arraycopy"), (0, u "(Ljava/lang/Object;ILjava/lang/Object;II)V"), (148, .methodref 305 306), (0, .class_ 307), (0, .nameAndType 308 309), (0, u "java/lang/Math"), (0, u "min"), (0, u "(II)I"), (0, .methodref 311 128), (0, .class_ 312), (0, u "[B"), (26, .methodref 14 340), (0, .nameAndType 341 342), (0, u "copyOfRangeByte"), (0, u "([BII)[B"), (0, .methodref 14 344), (0, .nameAndType 345 346), (0, u "checkLength"), (0, u "(II)V"), (28, .class_ 376), (0, u "java/util/Arrays$ArrayList"), (68, u "$assertionsDisabled"), (269, u "MIN_ARRAY_SORT_GRAN"), (0, u "I"), (2, u "INSERTIONSORT_THRESHOLD"), (255, .class_ 976), (0, u "java/util/Arrays$ArrayItr")] 52

def k3m0 : Method := { name := "<init>", desc := "()V", sig := { parameters := [], returnType := none }, accessFlags := 2, code := none }
def k3c1 : Code := { maxStack := 4, maxLocals := 2, code := jdk_65_method_131_code, exceptionTable := #[], attributes := #[] }
def k3m1 : Method := { name := "checkLength", desc := "(II)V", sig := { parameters := [.int, .int], returnType := none }, accessFlags := 10, code := some k3c1 }
def k3c2 : Code := { maxStack := 3, maxLocals := 3, code := jdk_65_method_132_code, exceptionTable := #[], attributes := #[] }
def k3m2 : Method := { name := "copyOfRange", desc := "([BII)[B", sig := { parameters := [(.array .byte), .int, .int], returnType := some (.array .byte) }, accessFlags := 9, code := some k3c2 }
def k3c3 : Code := { maxStack := 6, maxLocals := 5, code := jdk_65_method_133_code, exceptionTable := #[], attributes := #[] }
def k3m3 : Method := { name := "copyOfRangeByte", desc := "([BII)[B", sig := { parameters := [(.array .byte), .int, .int], returnType := some (.array .byte) }, accessFlags := 10, code := some k3c3 }
/-- java/util/Arrays -/
def k3 : Class := { plain "java/util/Arrays" (some 0) with
  accessFlags := 49
  interfaces := #[]
  cf := some (fileOf pool3 14 #[.nestMembers #[975, 375, 113, 74]] #[{ accessFlags := 2, nameIndex := 5, descriptorIndex := 6, attributes := #[] }, { accessFlags := 10, nameIndex := 345, descriptorIndex := 346, attributes := #[] }, { accessFlags := 9, nameIndex := 139, descriptorIndex := 342, attributes := #[] }, { accessFlags := 10, nameIndex := 341, descriptorIndex := 342, attributes := #[] }] 49 2 #[] #[{ accessFlags := 26, nameIndex := 715, descriptorIndex := 716, attributes := #[] }, { accessFlags := 26, nameIndex := 719, descriptorIndex := 716, attributes := #[] }, { accessFlags := 4120, nameIndex := 445, descriptorIndex := 117, attributes := #[] }])
  fields := #[{ name := "MIN_ARRAY_SORT_GRAN", type := .int, accessFlags := 26, slot := 0, constantValue := 0 }, { name := "INSERTIONSORT_THRESHOLD", type := .int, accessFlags := 26, slot := 1, constantValue := 0 }, { name := "$assertionsDisabled", type := .boolean, accessFlags := 4120, slot := 2, constantValue := 0 }]
  methods := #[k3m0, k3m1, k3m2, k3m3]
  instanceTypes := #[]
  staticTypes := #[.int, .int, .boolean]
  resolved := Array.replicate 1029 none
  statics := none }

def pool4 : Array CpInfo := pool [(1, .class_ 2), (0, u "java/lang/Cloneable"), (0, .class_ 4), (0, u "java/lang/Object")] 2

/-- java/lang/Cloneable -/
def k4 : Class := { plain "java/lang/Cloneable" (some 0) with
  accessFlags := 1537
  interfaces := #[]
  cf := some (fileOf pool4 1 #[] #[] 1537 3 #[] #[])
  fields := #[]
  methods := #[]
  instanceTypes := #[]
  staticTypes := #[]
  resolved := Array.replicate 7 none
  statics := none }

def pool5 : Array CpInfo := pool [(1, .class_ 2), (0, u "java/lang/Math"), (1, .class_ 6), (1, u "java/lang/Object"), (0, u "<init>"), (0, u "()V"), (89, .class_ 100), (1, u "java/lang/Math$RandomNumberGeneratorHolder"), (71, u "negativeZeroFloatBits"), (0, u "J"), (2, u "negativeZeroDoubleBits"), (24, u "min"), (43, u "$assertionsDisabled"), (0, u "Z"), (88, u "(II)I"), (2, u "twoToTheDoubleScaleDown"), (0, u "D"), (4, u "twoToTheDoubleScaleUp"), (9, u "E"), (3, u "PI"), (2, u "TAU"), (2, u "DEGREES_TO_RADIANS"), (0, u "RADIANS_TO_DEGREES")] 94

def k5m0 : Method := { name := "<init>", desc := "()V", sig := { parameters := [], returnType := none }, accessFlags := 2, code := none }
def k5c1 : Code := { maxStack := 2, maxLocals := 2, code := jdk_29_method_69_code, exceptionTable := #[], attributes := #[] }
def k5m1 : Method := { name := "min", desc := "(II)I", sig := { parameters := [.int, .int], returnType := some .int }, accessFlags := 9, code := some k5c1 }
/-- java/lang/Math -/
def k5 : Class := { plain "java/lang/Math" (some 0) with
  accessFlags := 49
  interfaces := #[]
  cf := some (fileOf pool5 1 #[.nestMembers #[98]] #[{ accessFlags := 2, nameIndex := 7, descriptorIndex := 8, attributes := #[] }, { accessFlags := 9, nameIndex := 201, descriptorIndex := 335, attributes := #[] }] 49 4 #[] #[{ accessFlags := 25, nameIndex := 354, descriptorIndex := 339, attributes := #[] }, { accessFlags := 25, nameIndex := 358, descriptorIndex := 339, attributes := #[] }, { accessFlags := 25, nameIndex := 361, descriptorIndex := 339, attributes := #[] }, { accessFlags := 26, nameIndex := 364, descriptorIndex := 339, attributes := #[] }, { accessFlags := 26, nameIndex := 365, descriptorIndex := 339, attributes := #[] }, { accessFlags := 26, nameIndex := 172, descriptorIndex := 173, attributes := #[] }, { accessFlags := 26, nameIndex := 176, descriptorIndex := 173, attributes := #[] }, { accessFlags := 8, nameIndex := 344, descriptorIndex := 339, attributes := #[] }, { accessFlags := 8, nameIndex := 338, descriptorIndex := 339, attributes := #[] }, { accessFlags := 4120, nameIndex := 245, descriptorIndex := 246, attributes := #[] }])
  fields := #[{ name := "E", type := .double, accessFlags := 25, slot := 0, constantValue := 0 }, { name := "PI", type := .double, accessFlags := 25, slot := 1, constantValue := 0 }, { name := "TAU", type := .double, accessFlags := 25, slot := 2, constantValue := 0 }, { name := "DEGREES_TO_RADIANS", type := .double, accessFlags := 26, slot := 3, constantValue := 0 }, { name := "RADIANS_TO_DEGREES", type := .double, accessFlags := 26, slot := 4, constantValue := 0 }, { name := "negativeZeroFloatBits", type := .long, accessFlags := 26, slot := 5, constantValue := 0 }, { name := "negativeZeroDoubleBits", type := .long, accessFlags := 26, slot := 6, constantValue := 0 }, { name := "twoToTheDoubleScaleUp", type := .double, accessFlags := 8, slot := 7, constantValue := 0 }, { name := "twoToTheDoubleScaleDown", type := .double, accessFlags := 8, slot := 8, constantValue := 0 }, { name := "$assertionsDisabled", type := .boolean, accessFlags := 4120, slot := 9, constantValue := 0 }]
  methods := #[k5m0, k5m1]
  instanceTypes := #[]
  staticTypes := #[.double, .double, .double, .double, .double, .long, .long, .double, .double, .boolean]
  resolved := Array.replicate 460 none
  statics := none }

def pool6 : Array CpInfo := pool [(2, .class_ 4), (1, u "java/lang/Object"), (0, u "<init>"), (0, u "()V"), (1, .class_ 10), (1, u "java/lang/System"), (0, u "allowSecurityManager"), (0, u "I"), (16, u "cons"), (0, u "Ljava/io/Console;"), (77, .class_ 110), (1, u "java/lang/System$CallersHolder"), (43, u "initialErrStream"), (0, u "Ljava/io/PrintStream;"), (19, u "security"), (0, u "Ljava/lang/SecurityManager;"), (31, .class_ 209), (0, u "java/lang/System$1"), (7, u "props"), (0, u "Ljava/util/Properties;"), (2, u "lineSeparator"), (0, u "Ljava/lang/String;"), (96, .class_ 321), (1, u "java/lang/System$LoggerFinder"), (5, .class_ 328), (0, u "java/lang/System$Logger"), (67, u "err"), (2, u "out"), (91, u "notSupportedJnuEncoding"), (15, u "in"), (17, u "initialIn"), (0, u "Ljava/io/InputStream;"), (35, u "bootLayer"), (0, u "Ljava/lang/ModuleLayer;"), (99, .class_ 664), (0, u "java/lang/System$2"), (9, u "NEVER"), (2, u "MAYBE"), (49, u "arraycopy"), (0, u "(Ljava/lang/Object;ILjava/lang/Object;II)V"), (72, .class_ 802), (0, u "java/lang/System$Logger$Level")] 31

def k6m0 : Method := { name := "<init>", desc := "()V", sig := { parameters := [], returnType := none }, accessFlags := 2, code := none }
def k6m1 : Method := { name := "arraycopy", desc := "(Ljava/lang/Object;ILjava/lang/Object;II)V", sig := { parameters := [(.object "java/lang/Object"), .int, (.object "java/lang/Object"), .int, .int], returnType := none }, accessFlags := 265, code := none }
/-- java/lang/System -/
def k6 : Class := { plain "java/lang/System" (some 0) with
  accessFlags := 49
  interfaces := #[]
  cf := some (fileOf pool6 8 #[.nestMembers #[319, 327, 801, 108, 663, 208]] #[{ accessFlags := 2, nameIndex := 5, descriptorIndex := 6, attributes := #[] }, { accessFlags := 265, nameIndex := 727, descriptorIndex := 728, attributes := #[] }] 49 2 #[] #[{ accessFlags := 25, nameIndex := 507, descriptorIndex := 526, attributes := #[] }, { accessFlags := 25, nameIndex := 399, descriptorIndex := 155, attributes := #[] }, { accessFlags := 25, nameIndex := 396, descriptorIndex := 155, attributes := #[] }, { accessFlags := 10, nameIndex := 525, descriptorIndex := 526, attributes := #[] }, { accessFlags := 26, nameIndex := 674, descriptorIndex := 12, attributes := #[] }, { accessFlags := 26, nameIndex := 677, descriptorIndex := 12, attributes := #[] }, { accessFlags := 10, nameIndex := 11, descriptorIndex := 12, attributes := #[] }, { accessFlags := 74, nameIndex := 175, descriptorIndex := 176, attributes := #[] }, { accessFlags := 10, nameIndex := 491, descriptorIndex := 222, attributes := #[] }, { accessFlags := 74, nameIndex := 29, descriptorIndex := 30, attributes := #[] }, { accessFlags := 74, nameIndex := 154, descriptorIndex := 155, attributes := #[] }, { accessFlags := 10, nameIndex := 217, descriptorIndex := 218, attributes := #[] }, { accessFlags := 10, nameIndex := 221, descriptorIndex := 222, attributes := #[] }, { accessFlags := 8, nameIndex := 562, descriptorIndex := 563, attributes := #[] }])
  fields := #[{ name := "in", type := (.object "java/io/InputStream"), accessFlags := 25, slot := 0, constantValue := 0 }, { name := "out", type := (.object "java/io/PrintStream"), accessFlags := 25, slot := 1, constantValue := 0 }, { name := "err", type := (.object "java/io/PrintStream"), accessFlags := 25, slot := 2, constantValue := 0 }, { name := "initialIn", type := (.object "java/io/InputStream"), accessFlags := 10, slot := 3, constantValue := 0 }, { name := "NEVER", type := .int, accessFlags := 26, slot := 4, constantValue := 0 }, { name := "MAYBE", type := .int, accessFlags := 26, slot := 5, constantValue := 0 }, { name := "allowSecurityManager", type := .int, accessFlags := 10, slot := 6, constantValue := 0 }, { name := "security", type := (.object "java/lang/SecurityManager"), accessFlags := 74, slot := 7, constantValue := 0 }, { name := "notSupportedJnuEncoding", type := (.object "java/lang/String"), accessFlags := 10, slot := 8, constantValue := 0 }, { name := "cons", type := (.object "java/io/Console"), accessFlags := 74, slot := 9, constantValue := 0 }, { name := "initialErrStream", type := (.object "java/io/PrintStream"), accessFlags := 74, slot := 10, constantValue := 0 }, { name := "props", type := (.object "java/util/Properties"), accessFlags := 10, slot := 11, constantValue := 0 }, { name := "lineSeparator", type := (.object "java/lang/String"), accessFlags := 10, slot := 12, constantValue := 0 }, { name := "bootLayer", type := (.object "java/lang/ModuleLayer"), accessFlags := 8, slot := 13, constantValue := 0 }]
  methods := #[k6m0, k6m1]
  instanceTypes := #[]
  staticTypes := #[(.object "java/io/InputStream"), (.object "java/io/PrintStream"), (.object "java/io/PrintStream"), (.object "java/io/InputStream"), .int, .int, .int, (.object "java/lang/SecurityManager"), (.object "java/lang/String"), (.object "java/io/Console"), (.object "java/io/PrintStream"), (.object "java/util/Properties"), (.object "java/lang/String"), (.object "java/lang/ModuleLayer")]
  resolved := Array.replicate 834 none
  statics := none }

def pool7 : Array CpInfo := pool [(1, u "java/io/Serializable"), (0, .class_ 1), (0, u "java/lang/Object"), (0, .class_ 3)] 3

/-- java/io/Serializable -/
def k7 : Class := { plain "java/io/Serializable" (some 0) with
  accessFlags := 1537
  interfaces := #[]
  cf := some (fileOf pool7 2 #[] #[] 1537 4 #[] #[])
  fields := #[]
  methods := #[]
  instanceTypes := #[]
  staticTypes := #[]
  resolved := Array.replicate 8 none
  statics := none }

/-- the primitive byte -/
def k8 : Class := { plain "byte" none with kind := .primitive 'B', accessFlags := 0x411 }
/-- [B -/
def k9 : Class := { plain "[B" (some 0) with kind := .array 8 .byte, interfaces := #[4, 7], accessFlags := 1041 }

/-- the primitive int -/
def k10 : Class := { plain "int" none with kind := .primitive 'I', accessFlags := 0x411 }
/-- [I -/
def k11 : Class := { plain "[I" (some 0) with kind := .array 10 .int, interfaces := #[4, 7], accessFlags := 1041 }

def heap : Heap := #[]
def classes : Array Class := #[k0, k1, k2, k3, k4, k5, k6, k7, k8, k9, k10, k11]
def interned : List (Array UInt16 × Addr) := []
def slotsUsed : Nat := 0
def theMethod : MethodId := ⟨1, 1⟩
def args0 : Array Value := #[.int 3, .int 4, .int 5]
def aboutOver (below : List Frame) : State where
  vm := { classes := classes, interned := interned.toArray }
  heap := heap
  slotsUsed := slotsUsed
  threads := #[{ frames := .invoking theMethod args0 :: below }]
def below0 : List Frame := [.native { method := ⟨0, 0⟩, args := #[] }]
def about1 : State := aboutOver below0
def p0 : Program := .bare "" "" ""
def e0 : Env := launch0.env 0 0 0
theorem w_frames : about1.frames = Frame.invoking theMethod args0 :: below0 := rfl
set_option maxRecDepth 65536 in
theorem w_args : argsFit about1.vm theMethod args0 = true := by decide +kernel
set_option maxRecDepth 65536 in
theorem w_heap : heapFits about1 = true := by decide +kernel
set_option maxRecDepth 65536 in
theorem w_runnable : about1.curStatus? = some .runnable := by decide +kernel
set_option maxRecDepth 65536 in
theorem w_alone : about1.alone = true := by decide +kernel
set_option maxRecDepth 65536 in
theorem w_named : about1.methodNamed? x = some theMethod := by decide +kernel
set_option maxRecDepth 65536 in
theorem w_hears : about1.hears theMethod below0 = true := by decide +kernel
set_option maxRecDepth 65536 in
theorem w_ripe : about1.ripe theMethod args0 below0 = true := by decide +kernel
theorem w_running : about1.status = .running := rfl
set_option maxRecDepth 65536 in
theorem w_room : about1.hasRoom e0.platform room_1 = true :=
  launch0.hasRoom_least _ room_1 (by decide +kernel) (by decide +kernel) (by decide +kernel) (by decide +kernel) (by decide +kernel) (by decide +kernel)
theorem allAtoms_all (ts : List Jvm.Cond) (a : Array Jvm.Value) (st : Jvm.State) : (allAtoms ts).before a st = ts.all (fun c => c.before a st) := by
  induction ts with
  | nil => rfl
  | cons c t ih =>
    show (Jvm.Cond.and c (allAtoms t)).before a st = _
    rw [Jvm.Cond.before_and, ih, List.all_cons]
def words1 : List Jvm.Cond := Jvm.Cond.code x code maxLocals ret :: tables_1
/-- a 'code' word, met by the world's own term for the bytes: nothing is compared byte by byte -/
theorem code_word {y : MethodName} {bytes : ByteArray} {mx : Nat} {rt : Option FieldType} {a : Array Value} {s : State} {m : MethodId} {meth : Method} {c : Code} (h1 : s.methodNamed? y = some m) (h2 : s.vm.method? m = some meth) (h3 : meth.code = some c) (h4 : c.code = bytes)
    (h5 : (c.maxLocals == mx && c.exceptionTable.isEmpty && decide (c.maxStack ≤ mostOperands) && decide (meth.sig.returnType = rt) && !meth.locks && decide (parseMethodDescriptor y.desc = some meth.sig)) = true) : (Jvm.Cond.code y bytes mx rt).before a s = true := by
  simp only [Bool.and_eq_true, beq_iff_eq, Bool.not_eq_true', decide_eq_true_eq] at h5
  obtain ⟨⟨⟨⟨⟨g1, g2⟩, g3⟩, g4⟩, g5⟩, g6⟩ := h5
  simp [Cond.before, Cond.holds, Cond.value, h1, h2, h3, h4, g1, g2, g3, g4, g5, g6]
def isCode : Jvm.Cond → Bool
  | .code _ _ _ _ => true
  | _ => false
theorem all_split {L : List Jvm.Cond} {P : Jvm.Cond → Bool} (h1 : L.all (fun c => isCode c || P c) = true) (h2 : ∀ c ∈ L.filter isCode, P c = true) : L.all P = true := by
  refine List.all_eq_true.mpr fun c hc => ?_
  have h := List.all_eq_true.mp h1 c hc
  rcases Bool.eq_false_or_eq_true (isCode c) with hi | hi
  · exact h2 c (List.mem_filter.mpr ⟨hc, hi⟩)
  · simpa [hi] using h
set_option maxRecDepth 65536 in
theorem w_c0 : (Jvm.Cond.code x code maxLocals ret).before args0 about1 = true := code_word (m := ⟨1, 1⟩) (meth := k1m1) (c := k1c1) (by decide +kernel) rfl rfl rfl (by decide +kernel)
set_option maxRecDepth 65536 in
theorem w_c1 : (Jvm.Cond.code ({ cls := "com/example/inwrap/inwrap/DerReaderRemainingPinLaw", name := "fill", desc := "([BIII)V" } : Jvm.MethodName) method_3_code (4 : Nat) (Option.none : Option Jvm.ClassFile.FieldType)).before args0 about1 = true := code_word (m := ⟨1, 2⟩) (meth := k1m2) (c := k1c2) (by decide +kernel) rfl rfl rfl (by decide +kernel)
set_option maxRecDepth 65536 in
theorem w_c2 : (Jvm.Cond.code ({ cls := "com/example/inwrap/inwrap/DerReader", name := "<init>", desc := "([B)V" } : Jvm.MethodName) prog_5_method_1_code (2 : Nat) (Option.none : Option Jvm.ClassFile.FieldType)).before args0 about1 = true := code_word (m := ⟨2, 0⟩) (meth := k2m0) (c := k2c0) (by decide +kernel) rfl rfl rfl (by decide +kernel)
set_option maxRecDepth 65536 in
theorem w_c3 : (Jvm.Cond.code ({ cls := "com/example/inwrap/inwrap/DerReader", name := "<init>", desc := "([BII)V" } : Jvm.MethodName) prog_5_method_2_code (4 : Nat) (Option.none : Option Jvm.ClassFile.FieldType)).before args0 about1 = true := code_word (m := ⟨2, 1⟩) (meth := k2m1) (c := k2c1) (by decide +kernel) rfl rfl rfl (by decide +kernel)
set_option maxRecDepth 65536 in
theorem w_c4 : (Jvm.Cond.code ({ cls := "java/lang/Object", name := "<init>", desc := "()V" } : Jvm.MethodName) object_method_1_code (1 : Nat) (Option.none : Option Jvm.ClassFile.FieldType)).before args0 about1 = true := code_word (m := ⟨0, 0⟩) (meth := k0m0) (c := k0c0) (by decide +kernel) rfl rfl rfl (by decide +kernel)
set_option maxRecDepth 65536 in
theorem w_c5 : (Jvm.Cond.code ({ cls := "com/example/inwrap/inwrap/DerReader", name := "remaining", desc := "()[B" } : Jvm.MethodName) prog_5_method_7_code (1 : Nat) (Option.some (Jvm.ClassFile.FieldType.array Jvm.ClassFile.FieldType.byte))).before args0 about1 = true := code_word (m := ⟨2, 5⟩) (meth := k2m5) (c := k2c5) (by decide +kernel) rfl rfl rfl (by decide +kernel)
set_option maxRecDepth 65536 in
theorem w_c6 : (Jvm.Cond.code ({ cls := "java/util/Arrays", name := "copyOfRange", desc := "([BII)[B" } : Jvm.MethodName) jdk_65_method_132_code (3 : Nat) (Option.some (Jvm.ClassFile.FieldType.array Jvm.ClassFile.FieldType.byte))).before args0 about1 = true := code_word (m := ⟨3, 2⟩) (meth := k3m2) (c := k3c2) (by decide +kernel) rfl rfl rfl (by decide +kernel)
set_option maxRecDepth 65536 in
theorem w_c7 : (Jvm.Cond.code ({ cls := "com/example/inwrap/inwrap/DerReaderRemainingPinLaw", name := "slice", desc := "([B[BII)Z" } : Jvm.MethodName) method_4_code (5 : Nat) (Option.some Jvm.ClassFile.FieldType.boolean)).before args0 about1 = true := code_word (m := ⟨1, 3⟩) (meth := k1m3) (c := k1c3) (by decide +kernel) rfl rfl rfl (by decide +kernel)
set_option maxRecDepth 65536 in
theorem w_c8 : (Jvm.Cond.code ({ cls := "com/example/inwrap/inwrap/DerReaderRemainingPinLaw", name := "at", desc := "([B[BII)Z" } : Jvm.MethodName) method_5_code (4 : Nat) (Option.some Jvm.ClassFile.FieldType.boolean)).before args0 about1 = true := code_word (m := ⟨1, 4⟩) (meth := k1m4) (c := k1c4) (by decide +kernel) rfl rfl rfl (by decide +kernel)
set_option maxRecDepth 65536 in
theorem w_c9 : (Jvm.Cond.code ({ cls := "com/example/inwrap/inwrap/DerReader", name := "readAny", desc := "()Lcom/example/inwrap/inwrap/DerReader;" } : Jvm.MethodName) prog_5_method_6_code (8 : Nat) (Option.some (Jvm.ClassFile.FieldType.object "com/example/inwrap/inwrap/DerReader"))).before args0 about1 = true := code_word (m := ⟨2, 4⟩) (meth := k2m4) (c := k2c4) (by decide +kernel) rfl rfl rfl (by decide +kernel)
set_option maxRecDepth 65536 in
theorem w_c10 : (Jvm.Cond.code ({ cls := "com/example/inwrap/inwrap/DerReader", name := "peekTag", desc := "()I" } : Jvm.MethodName) prog_5_method_4_code (1 : Nat) (Option.some Jvm.ClassFile.FieldType.int)).before args0 about1 = true := code_word (m := ⟨2, 3⟩) (meth := k2m3) (c := k2c3) (by decide +kernel) rfl rfl rfl (by decide +kernel)
set_option maxRecDepth 65536 in
theorem w_c11 : (Jvm.Cond.code ({ cls := "com/example/inwrap/inwrap/DerReader", name := "atEnd", desc := "()Z" } : Jvm.MethodName) prog_5_method_3_code (1 : Nat) (Option.some Jvm.ClassFile.FieldType.boolean)).before args0 about1 = true := code_word (m := ⟨2, 2⟩) (meth := k2m2) (c := k2c2) (by decide +kernel) rfl rfl rfl (by decide +kernel)
set_option maxRecDepth 65536 in
theorem w_c12 : (Jvm.Cond.code ({ cls := "java/util/Arrays", name := "copyOfRangeByte", desc := "([BII)[B" } : Jvm.MethodName) jdk_65_method_133_code (5 : Nat) (Option.some (Jvm.ClassFile.FieldType.array Jvm.ClassFile.FieldType.byte))).before args0 about1 = true := code_word (m := ⟨3, 3⟩) (meth := k3m3) (c := k3c3) (by decide +kernel) rfl rfl rfl (by decide +kernel)
set_option maxRecDepth 65536 in
theorem w_c13 : (Jvm.Cond.code ({ cls := "java/util/Arrays", name := "checkLength", desc := "(II)V" } : Jvm.MethodName) jdk_65_method_131_code (2 : Nat) (Option.none : Option Jvm.ClassFile.FieldType)).before args0 about1 = true := code_word (m := ⟨3, 1⟩) (meth := k3m1) (c := k3c1) (by decide +kernel) rfl rfl rfl (by decide +kernel)
set_option maxRecDepth 65536 in
theorem w_c14 : (Jvm.Cond.code ({ cls := "java/lang/Math", name := "min", desc := "(II)I" } : Jvm.MethodName) jdk_29_method_69_code (2 : Nat) (Option.some Jvm.ClassFile.FieldType.int)).before args0 about1 = true := code_word (m := ⟨5, 1⟩) (meth := k5m1) (c := k5c1) (by decide +kernel) rfl rfl rfl (by decide +kernel)
def codes1 : List Jvm.Cond := [Jvm.Cond.code x code maxLocals ret, Jvm.Cond.code ({ cls := "com/example/inwrap/inwrap/DerReaderRemainingPinLaw", name := "fill", desc := "([BIII)V" } : Jvm.MethodName) method_3_code (4 : Nat) (Option.none : Option Jvm.ClassFile.FieldType), Jvm.Cond.code ({ cls := "com/example/inwrap/inwrap/DerReader", name := "<init>", desc := "([B)V" } : Jvm.MethodName) prog_5_method_1_code (2 : Nat) (Option.none : Option Jvm.ClassFile.FieldType), Jvm.Cond.code ({ cls := "com/example/inwrap/inwrap/DerReader", name := "<init>", desc := "([BII)V" } : Jvm.MethodName) prog_5_method_2_code (4 : Nat) (Option.none : Option Jvm.ClassFile.FieldType), Jvm.Cond.code ({ cls := "java/lang/Object", name := "<init>", desc := "()V" } : Jvm.MethodName) object_method_1_code (1 : Nat) (Option.none : Option Jvm.ClassFile.FieldType), Jvm.Cond.code ({ cls := "com/example/inwrap/inwrap/DerReader", name := "remaining", desc := "()[B" } : Jvm.MethodName) prog_5_method_7_code (1 : Nat) (Option.some (Jvm.ClassFile.FieldType.array Jvm.ClassFile.FieldType.byte)), Jvm.Cond.code ({ cls := "java/util/Arrays", name := "copyOfRange", desc := "([BII)[B" } : Jvm.MethodName) jdk_65_method_132_code (3 : Nat) (Option.some (Jvm.ClassFile.FieldType.array Jvm.ClassFile.FieldType.byte)), Jvm.Cond.code ({ cls := "com/example/inwrap/inwrap/DerReaderRemainingPinLaw", name := "slice", desc := "([B[BII)Z" } : Jvm.MethodName) method_4_code (5 : Nat) (Option.some Jvm.ClassFile.FieldType.boolean), Jvm.Cond.code ({ cls := "com/example/inwrap/inwrap/DerReaderRemainingPinLaw", name := "at", desc := "([B[BII)Z" } : Jvm.MethodName) method_5_code (4 : Nat) (Option.some Jvm.ClassFile.FieldType.boolean), Jvm.Cond.code ({ cls := "com/example/inwrap/inwrap/DerReader", name := "readAny", desc := "()Lcom/example/inwrap/inwrap/DerReader;" } : Jvm.MethodName) prog_5_method_6_code (8 : Nat) (Option.some (Jvm.ClassFile.FieldType.object "com/example/inwrap/inwrap/DerReader")), Jvm.Cond.code ({ cls := "com/example/inwrap/inwrap/DerReader", name := "peekTag", desc := "()I" } : Jvm.MethodName) prog_5_method_4_code (1 : Nat) (Option.some Jvm.ClassFile.FieldType.int), Jvm.Cond.code ({ cls := "com/example/inwrap/inwrap/DerReader", name := "atEnd", desc := "()Z" } : Jvm.MethodName) prog_5_method_3_code (1 : Nat) (Option.some Jvm.ClassFile.FieldType.boolean), Jvm.Cond.code ({ cls := "java/util/Arrays", name := "copyOfRangeByte", desc := "([BII)[B" } : Jvm.MethodName) jdk_65_method_133_code (5 : Nat) (Option.some (Jvm.ClassFile.FieldType.array Jvm.ClassFile.FieldType.byte)), Jvm.Cond.code ({ cls := "java/util/Arrays", name := "checkLength", desc := "(II)V" } : Jvm.MethodName) jdk_65_method_131_code (2 : Nat) (Option.none : Option Jvm.ClassFile.FieldType), Jvm.Cond.code ({ cls := "java/lang/Math", name := "min", desc := "(II)I" } : Jvm.MethodName) jdk_29_method_69_code (2 : Nat) (Option.some Jvm.ClassFile.FieldType.int)]
set_option maxRecDepth 65536 in
theorem codes_eq : words1.filter isCode = codes1 := rfl
theorem w_codes : ∀ c ∈ words1.filter isCode, c.before args0 about1 = true := by
  rw [codes_eq]
  intro c hc
  simp only [codes1, List.mem_cons, List.not_mem_nil, or_false] at hc
  rcases hc with rfl | rfl | rfl | rfl | rfl | rfl | rfl | rfl | rfl | rfl | rfl | rfl | rfl | rfl | rfl
  · exact w_c0
  · exact w_c1
  · exact w_c2
  · exact w_c3
  · exact w_c4
  · exact w_c5
  · exact w_c6
  · exact w_c7
  · exact w_c8
  · exact w_c9
  · exact w_c10
  · exact w_c11
  · exact w_c12
  · exact w_c13
  · exact w_c14
set_option maxRecDepth 65536 in
theorem w_t1 : (words1.take 24).all (fun c => isCode c || c.before args0 about1) = true := by decide +kernel
set_option maxRecDepth 65536 in
theorem w_t2 : ((words1.drop 24).take 24).all (fun c => isCode c || c.before args0 about1) = true := by decide +kernel
set_option maxRecDepth 65536 in
theorem w_t3 : (((words1.drop 24).drop 24).take 24).all (fun c => isCode c || c.before args0 about1) = true := by decide +kernel
set_option maxRecDepth 65536 in
theorem w_t4 : (((words1.drop 24).drop 24).drop 24).all (fun c => isCode c || c.before args0 about1) = true := by decide +kernel
theorem w_tables : (allAtoms (Jvm.Cond.code x code maxLocals ret :: tables_1)).before args0 about1 = true := by
  rw [allAtoms_all]
  show words1.all (fun c => c.before args0 about1) = true
  refine all_split ?_ w_codes
  rw [← List.take_append_drop 24 words1, List.all_append, w_t1, ← List.take_append_drop 24 (words1.drop 24), List.all_append, w_t2, ← List.take_append_drop 24 ((words1.drop 24).drop 24), List.all_append, w_t3, w_t4]
  rfl
set_option maxRecDepth 65536 in
theorem w_case : (Jvm.Cond.and given_1 narrow_1).before args0 about1 = true := by decide +kernel
theorem w_applies : (headSpec (Jvm.Cond.code x code maxLocals ret :: tables_1) room_1).applies x e0.platform about1 = true :=
  (Spec.applies_iff w_frames).mpr ⟨w_running, w_runnable, w_alone, w_named, w_hears, w_ripe, w_room, w_tables⟩
theorem atStart : AtStart classFile x code maxLocals ret World_1 tables_1 room_1 Calls_1 rest_1 Pre_1 launch0 p0 e0 about1 theMethod args0 below0 :=
  ⟨lists_1, trivial, launch0.admits_env _ _ _, launch0.least_env, fairChoices_fair.cas, fairChoices_fair.clock, w_frames, w_args, w_heap, w_applies, trivial, trivial, w_case⟩
end start1
theorem witness_1 : WitnessClaimed_1 := ⟨start1.p0, start1.e0, start1.about1, start1.theMethod, start1.args0, start1.below0, start1.atStart⟩
end Jvm.Pilot.@@N@@
