import JvmDerived
import JvmDerived.Pilot.@@N@@Statement
import JvmDerived.Pilot.@@N@@Code
set_option linter.unusedVariables false
set_option linter.unusedSimpArgs false
@@BLOCK:NumsL.lean.txt@@
namespace Jvm.Pilot.@@N@@
open Jvm Jvm.ClassFile Sem Op Lib Jvm.Free Jvm.Stand Jvm.LawKit Jvm.RoadKit Bundle Jvm.Pilot.@@N@@.Jvm.D
section OwnKit
variable {p : Program} {l : Launch} {e : Env} {R : Room} {s : State} {m : MethodId} {args : Array Value} {below : List Frame} {meth : Method} {c : Code} {T T' : State} {locs : List Loc} {cells slots : Nat} {Z : State} {a0 : Array Value} {h h' : Heap} {cm sm : Nat} {Q : Option Value → Heap → List Loc → Prop} {pc pc' : Nat} {Ls Ls' : Array Slot} {St : List Value}
/-- the walk's goal: from this frame the method comes to its end, and Q holds of what it leaves -/
def Go (p : Program) (e : Env) (below : List Frame) (s : State) (cm sm : Nat) (Q : Option Value → Heap → List Loc → Prop) (T : State) (g : JFrame) : Prop :=
  ∃ s₂ o, Steps p.tables e below (T.setTop g) s₂ ∧ s₂.status = .running ∧ Ended s₂ below o ∧ ∃ v L, o = .returned v ∧ Q v s₂.heap L ∧ FrameEnd s o s₂ L cm sm
theorem Go.st {g g' : JFrame} (q : ∀ t, Steps p.tables e below (T'.setTop g') t → Steps p.tables e below (T.setTop g) t) (k : Go p e below s cm sm Q T' g') : Go p e below s cm sm Q T g := by
  obtain ⟨s₂, o, st, r⟩ := k
  exact ⟨s₂, o, q _ st, r⟩
theorem Go.weak {g : JFrame} {Q' : Option Value → Heap → List Loc → Prop} (k : Go p e below s cm sm Q T g) (q : ∀ v h L, Q v h L → Q' v h L) : Go p e below s cm sm Q' T g := by
  obtain ⟨s₂, o, st, r1, r2, v, L, r3, r4, r5⟩ := k
  exact ⟨s₂, o, st, r1, r2, v, L, r3, q _ _ _ r4, r5⟩
/-- a contract -/
def Con (l : Launch) (Z : State) (y : MethodName) (bytes : ByteArray) (maxL : Nat) (ret : Option FieldType) (rm : Room) (as' : Array Value) (h : Heap) (Q : Option Value → Heap → List Loc → Prop) : Prop :=
  ∀ ws : List Jvm.Cond, MetFree l y (head1 (Jvm.Cond.code y bytes maxL ret :: ws) rm) (fun a U => a = as' ∧ Z.Warmed39 U.vm ∧ U.heap = h) (fun _ _ _ _ _ => True) (fun _ U o U' => ∃ v L, o = .returned v ∧ Q v U'.heap L ∧ FrameEnd U o U' L rm.cells rm.slots)
theorem Con.of {y : MethodName} {bytes : ByteArray} {maxL : Nat} {ret : Option FieldType} {rm : Room} {as' : Array Value} (hpl : plainFor y = true)
    (body : ∀ (p : Program) (e : Env) (s : State) (m : MethodId) (below : List Frame) (meth : Method) (c : Code) (T : State), Stand p l e rm s m as' below meth c T [] 0 0 → p.tables.exec = Jvm.exec → Z.Warmed39 s.vm → c.code = bytes → c.maxLocals = maxL → s.vm.findClass y.cls = some m.cls → meth.name = y.name → meth.sig.returnType = ret → meth.locks = false → T.heap = h → Go p e below s rm.cells rm.slots Q T (entryFrame m as' maxL)) :
    Con l Z y bytes maxL ret rm as' h Q := by
  intro ws
  refine MetFree.of_bodySF hpl hisR ?_
  intro p e s m args below meth c s₁ Bd hml0 hP hK
  obtain ⟨rfl, hZ, hh⟩ := hP
  exact body p e s m below meth c s₁ (Stand.of_body Bd) Bd.exec hZ Bd.bytes hml0 (findClass_of_methodNamed Bd.named) (name_of_methodNamed Bd.named Bd.method).1 Bd.returns Bd.notSynchronized (by rw [← hh, Bd.state]; rfl)
theorem Con.weak {y : MethodName} {bytes : ByteArray} {maxL : Nat} {ret : Option FieldType} {rm : Room} {as' : Array Value} {Q' : Option Value → Heap → List Loc → Prop} (C : Con l Z y bytes maxL ret rm as' h Q) (q : ∀ v h L, Q v h L → Q' v h L) : Con l Z y bytes maxL ret rm as' h Q' := by
  intro ws p e ha hc hk s m args below hf happ hP hK
  obtain ⟨n, o, h1, h2, h3, v, L, r3, r4, r5⟩ := C ws p e ha hc hk s m args below hf happ hP hK
  exact ⟨n, o, h1, h2, h3, v, L, r3, q _ _ _ r4, r5⟩
/-- what a body that writes nothing leaves -/
abbrev QP (v0 : Option Value) (h0 : Heap) (n0 : Nat) : Option Value → Heap → List Loc → Prop := fun v h L => v = v0 ∧ Fr n0 L ∧ h = h0
/-- what a law leaves -/
abbrev QL (v0 : Option Value) (n0 : Nat) : Option Value → Heap → List Loc → Prop := fun v _ L => v = v0 ∧ Fr n0 L
/-- iushr, lushr -/
def jushr (x y : Int32) : Int32 := (x.toUInt32 >>> (y &&& 31).toUInt32).toInt32
def jlushr (x : Int64) (y : Int32) : Int64 := (x.toUInt64 >>> (y &&& 0x3f).toInt64.toUInt64).toInt64
theorem w_iloadN (X : Stand p l e R s m args below meth c T locs cells slots) (hx : p.tables.exec = Jvm.exec) {k : Fin 4} {v : Int32} (hd : decode c.code pc = .ok (.iload_n k, 1)) (hp : pc + 1 = pc') (hl : Ls[k.val]? = some (.val (.int v)))
    (kk : Go p e below s cm sm Q T (mkF m pc' Ls (.int v :: St))) : Go p e below s cm sm Q T (mkF m pc Ls (St)) := by
  subst hp
  exact Go.st (fun t q => XS.iloadN (g := mkF m pc Ls (St)) X.here hx rfl hd hl q) kk
theorem w_iload (X : Stand p l e R s m args below meth c T locs cells slots) (hx : p.tables.exec = Jvm.exec) {k : Nat} {v : Int32} (hd : decode c.code pc = .ok (.iload k, 2)) (hp : pc + 2 = pc') (hl : Ls[k]? = some (.val (.int v)))
    (kk : Go p e below s cm sm Q T (mkF m pc' Ls (.int v :: St))) : Go p e below s cm sm Q T (mkF m pc Ls (St)) := by
  subst hp
  exact Go.st (fun t q => XS.iload (g := mkF m pc Ls (St)) X.here hx rfl hd hl q) kk
theorem w_istoreN (X : Stand p l e R s m args below meth c T locs cells slots) (hx : p.tables.exec = Jvm.exec) {k : Fin 4} {x : Int32} (hd : decode c.code pc = .ok (.istore_n k, 1)) (hp : pc + 1 = pc') (hl : storeLocals Ls k.val (.int x) = some Ls')
    (kk : Go p e below s cm sm Q T (mkF m pc' Ls' (St))) : Go p e below s cm sm Q T (mkF m pc Ls (.int x :: St)) := by
  subst hp
  exact Go.st (fun t q => XS.istoreN (g := mkF m pc Ls (.int x :: St)) X.here hx rfl hd rfl hl q) kk
theorem w_istore (X : Stand p l e R s m args below meth c T locs cells slots) (hx : p.tables.exec = Jvm.exec) {k : Nat} {x : Int32} (hd : decode c.code pc = .ok (.istore k, 2)) (hp : pc + 2 = pc') (hl : storeLocals Ls k (.int x) = some Ls')
    (kk : Go p e below s cm sm Q T (mkF m pc' Ls' (St))) : Go p e below s cm sm Q T (mkF m pc Ls (.int x :: St)) := by
  subst hp
  exact Go.st (fun t q => XS.istore (g := mkF m pc Ls (.int x :: St)) X.here hx rfl hd rfl hl q) kk
theorem w_lloadN (X : Stand p l e R s m args below meth c T locs cells slots) (hx : p.tables.exec = Jvm.exec) {k : Fin 4} {v : Int64} (hd : decode c.code pc = .ok (.lload_n k, 1)) (hp : pc + 1 = pc') (hl : Ls[k.val]? = some (.val (.long v)))
    (kk : Go p e below s cm sm Q T (mkF m pc' Ls (.long v :: St))) : Go p e below s cm sm Q T (mkF m pc Ls (St)) := by
  subst hp
  exact Go.st (fun t q => XS.lloadN (g := mkF m pc Ls (St)) X.here hx rfl hd hl q) kk
theorem w_lload (X : Stand p l e R s m args below meth c T locs cells slots) (hx : p.tables.exec = Jvm.exec) {k : Nat} {v : Int64} (hd : decode c.code pc = .ok (.lload k, 2)) (hp : pc + 2 = pc') (hl : Ls[k]? = some (.val (.long v)))
    (kk : Go p e below s cm sm Q T (mkF m pc' Ls (.long v :: St))) : Go p e below s cm sm Q T (mkF m pc Ls (St)) := by
  subst hp
  exact Go.st (fun t q => XS.lload (g := mkF m pc Ls (St)) X.here hx rfl hd hl q) kk
theorem w_lstoreN (X : Stand p l e R s m args below meth c T locs cells slots) (hx : p.tables.exec = Jvm.exec) {k : Fin 4} {x : Int64} (hd : decode c.code pc = .ok (.lstore_n k, 1)) (hp : pc + 1 = pc') (hl : storeLocals Ls k.val (.long x) = some Ls')
    (kk : Go p e below s cm sm Q T (mkF m pc' Ls' (St))) : Go p e below s cm sm Q T (mkF m pc Ls (.long x :: St)) := by
  subst hp
  exact Go.st (fun t q => XS.lstoreN (g := mkF m pc Ls (.long x :: St)) X.here hx rfl hd rfl hl q) kk
theorem w_lstore (X : Stand p l e R s m args below meth c T locs cells slots) (hx : p.tables.exec = Jvm.exec) {k : Nat} {x : Int64} (hd : decode c.code pc = .ok (.lstore k, 2)) (hp : pc + 2 = pc') (hl : storeLocals Ls k (.long x) = some Ls')
    (kk : Go p e below s cm sm Q T (mkF m pc' Ls' (St))) : Go p e below s cm sm Q T (mkF m pc Ls (.long x :: St)) := by
  subst hp
  exact Go.st (fun t q => XS.lstore (g := mkF m pc Ls (.long x :: St)) X.here hx rfl hd rfl hl q) kk
theorem w_aloadN (X : Stand p l e R s m args below meth c T locs cells slots) (hx : p.tables.exec = Jvm.exec) {k : Fin 4} {v : Value} (hd : decode c.code pc = .ok (.aload_n k, 1)) (hp : pc + 1 = pc') (hl : Ls[k.val]? = some (.val v)) (hv : v.isRef = true)
    (kk : Go p e below s cm sm Q T (mkF m pc' Ls (v :: St))) : Go p e below s cm sm Q T (mkF m pc Ls (St)) := by
  subst hp
  exact Go.st (fun t q => XS.aloadN (g := mkF m pc Ls (St)) X.here hx rfl hd hl hv q) kk
theorem w_aload (X : Stand p l e R s m args below meth c T locs cells slots) (hx : p.tables.exec = Jvm.exec) {k : Nat} {v : Value} (hd : decode c.code pc = .ok (.aload k, 2)) (hp : pc + 2 = pc') (hl : Ls[k]? = some (.val v)) (hv : v.isRef = true)
    (kk : Go p e below s cm sm Q T (mkF m pc' Ls (v :: St))) : Go p e below s cm sm Q T (mkF m pc Ls (St)) := by
  subst hp
  exact Go.st (fun t q => XS.aload (g := mkF m pc Ls (St)) X.here hx rfl hd hl hv q) kk
theorem w_astoreN (X : Stand p l e R s m args below meth c T locs cells slots) (hx : p.tables.exec = Jvm.exec) {k : Fin 4} {x : Value} (hd : decode c.code pc = .ok (.astore_n k, 1)) (hp : pc + 1 = pc') (hv : x.isRef = true) (hl : storeLocals Ls k.val x = some Ls')
    (kk : Go p e below s cm sm Q T (mkF m pc' Ls' (St))) : Go p e below s cm sm Q T (mkF m pc Ls (x :: St)) := by
  subst hp
  exact Go.st (fun t q => XS.astoreN (g := mkF m pc Ls (x :: St)) X.here hx rfl hd rfl hv hl q) kk
theorem w_astore (X : Stand p l e R s m args below meth c T locs cells slots) (hx : p.tables.exec = Jvm.exec) {k : Nat} {x : Value} (hd : decode c.code pc = .ok (.astore k, 2)) (hp : pc + 2 = pc') (hv : x.isRef = true) (hl : storeLocals Ls k x = some Ls')
    (kk : Go p e below s cm sm Q T (mkF m pc' Ls' (St))) : Go p e below s cm sm Q T (mkF m pc Ls (x :: St)) := by
  subst hp
  exact Go.st (fun t q => XS.astore (g := mkF m pc Ls (x :: St)) X.here hx rfl hd rfl hv hl q) kk
theorem w_iconst (X : Stand p l e R s m args below meth c T locs cells slots) (hx : p.tables.exec = Jvm.exec) {i : Int} {v : Int32} (hd : decode c.code pc = .ok (.iconst i, 1)) (hp : pc + 1 = pc') (hv : Int32.ofInt i = v)
    (kk : Go p e below s cm sm Q T (mkF m pc' Ls (.int v :: St))) : Go p e below s cm sm Q T (mkF m pc Ls St) := by
  subst hp hv
  exact Go.st (fun t q => XS.iconst (g := mkF m pc Ls St) X.here hx rfl hd q) kk
theorem w_bipush (X : Stand p l e R s m args below meth c T locs cells slots) (hx : p.tables.exec = Jvm.exec) {i : Int} {v : Int32} (hd : decode c.code pc = .ok (.bipush i, 2)) (hp : pc + 2 = pc') (hv : (Int8.ofInt i).toInt32 = v)
    (kk : Go p e below s cm sm Q T (mkF m pc' Ls (.int v :: St))) : Go p e below s cm sm Q T (mkF m pc Ls St) := by
  subst hp hv
  exact Go.st (fun t q => XS.bipush (g := mkF m pc Ls St) X.here hx rfl hd q) kk
theorem w_sipush (X : Stand p l e R s m args below meth c T locs cells slots) (hx : p.tables.exec = Jvm.exec) {i : Int} {v : Int32} (hd : decode c.code pc = .ok (.sipush i, 3)) (hp : pc + 3 = pc') (hv : (Int16.ofInt i).toInt32 = v)
    (kk : Go p e below s cm sm Q T (mkF m pc' Ls (.int v :: St))) : Go p e below s cm sm Q T (mkF m pc Ls St) := by
  subst hp hv
  exact Go.st (fun t q => XS.sipush (g := mkF m pc Ls St) X.here hx rfl hd q) kk
theorem w_lconst (X : Stand p l e R s m args below meth c T locs cells slots) (hx : p.tables.exec = Jvm.exec) {i : Fin 2} {v : Int64} (hd : decode c.code pc = .ok (.lconst i, 1)) (hp : pc + 1 = pc') (hv : Int64.ofNat i = v)
    (kk : Go p e below s cm sm Q T (mkF m pc' Ls (.long v :: St))) : Go p e below s cm sm Q T (mkF m pc Ls St) := by
  subst hp hv
  exact Go.st (fun t q => XS.lconst (g := mkF m pc Ls St) X.here hx rfl hd q) kk
theorem w_aconstNull (X : Stand p l e R s m args below meth c T locs cells slots) (hx : p.tables.exec = Jvm.exec)  (hd : decode c.code pc = .ok (.aconst_null, 1)) (hp : pc + 1 = pc')
    (kk : Go p e below s cm sm Q T (mkF m pc' Ls (.null :: St))) : Go p e below s cm sm Q T (mkF m pc Ls (St)) := by
  subst hp
  exact Go.st (fun t q => XS.aconstNull (g := mkF m pc Ls (St)) X.here hx rfl hd q) kk
theorem w_iadd (X : Stand p l e R s m args below meth c T locs cells slots) (hx : p.tables.exec = Jvm.exec) {x y : Int32} (hd : decode c.code pc = .ok (.iadd, 1)) (hp : pc + 1 = pc')
    (kk : Go p e below s cm sm Q T (mkF m pc' Ls (.int (x + y) :: St))) : Go p e below s cm sm Q T (mkF m pc Ls (.int y :: .int x :: St)) := by
  subst hp
  exact Go.st (fun t q => XS.iadd (g := mkF m pc Ls (.int y :: .int x :: St)) X.here hx rfl hd rfl q) kk
theorem w_ladd (X : Stand p l e R s m args below meth c T locs cells slots) (hx : p.tables.exec = Jvm.exec) {x y : Int64} (hd : decode c.code pc = .ok (.ladd, 1)) (hp : pc + 1 = pc')
    (kk : Go p e below s cm sm Q T (mkF m pc' Ls (.long (x + y) :: St))) : Go p e below s cm sm Q T (mkF m pc Ls (.long y :: .long x :: St)) := by
  subst hp
  exact Go.st (fun t q => XS.ladd (g := mkF m pc Ls (.long y :: .long x :: St)) X.here hx rfl hd rfl q) kk
theorem w_isub (X : Stand p l e R s m args below meth c T locs cells slots) (hx : p.tables.exec = Jvm.exec) {x y : Int32} (hd : decode c.code pc = .ok (.isub, 1)) (hp : pc + 1 = pc')
    (kk : Go p e below s cm sm Q T (mkF m pc' Ls (.int (x - y) :: St))) : Go p e below s cm sm Q T (mkF m pc Ls (.int y :: .int x :: St)) := by
  subst hp
  exact Go.st (fun t q => XS.isub (g := mkF m pc Ls (.int y :: .int x :: St)) X.here hx rfl hd rfl q) kk
theorem w_lsub (X : Stand p l e R s m args below meth c T locs cells slots) (hx : p.tables.exec = Jvm.exec) {x y : Int64} (hd : decode c.code pc = .ok (.lsub, 1)) (hp : pc + 1 = pc')
    (kk : Go p e below s cm sm Q T (mkF m pc' Ls (.long (x - y) :: St))) : Go p e below s cm sm Q T (mkF m pc Ls (.long y :: .long x :: St)) := by
  subst hp
  exact Go.st (fun t q => XS.lsub (g := mkF m pc Ls (.long y :: .long x :: St)) X.here hx rfl hd rfl q) kk
theorem w_imul (X : Stand p l e R s m args below meth c T locs cells slots) (hx : p.tables.exec = Jvm.exec) {x y : Int32} (hd : decode c.code pc = .ok (.imul, 1)) (hp : pc + 1 = pc')
    (kk : Go p e below s cm sm Q T (mkF m pc' Ls (.int (x * y) :: St))) : Go p e below s cm sm Q T (mkF m pc Ls (.int y :: .int x :: St)) := by
  subst hp
  exact Go.st (fun t q => XS.imul (g := mkF m pc Ls (.int y :: .int x :: St)) X.here hx rfl hd rfl q) kk
theorem w_lmul (X : Stand p l e R s m args below meth c T locs cells slots) (hx : p.tables.exec = Jvm.exec) {x y : Int64} (hd : decode c.code pc = .ok (.lmul, 1)) (hp : pc + 1 = pc')
    (kk : Go p e below s cm sm Q T (mkF m pc' Ls (.long (x * y) :: St))) : Go p e below s cm sm Q T (mkF m pc Ls (.long y :: .long x :: St)) := by
  subst hp
  exact Go.st (fun t q => XS.lmul (g := mkF m pc Ls (.long y :: .long x :: St)) X.here hx rfl hd rfl q) kk
theorem w_iand (X : Stand p l e R s m args below meth c T locs cells slots) (hx : p.tables.exec = Jvm.exec) {x y : Int32} (hd : decode c.code pc = .ok (.iand, 1)) (hp : pc + 1 = pc')
    (kk : Go p e below s cm sm Q T (mkF m pc' Ls (.int (x &&& y) :: St))) : Go p e below s cm sm Q T (mkF m pc Ls (.int y :: .int x :: St)) := by
  subst hp
  exact Go.st (fun t q => XS.iand (g := mkF m pc Ls (.int y :: .int x :: St)) X.here hx rfl hd rfl q) kk
theorem w_land (X : Stand p l e R s m args below meth c T locs cells slots) (hx : p.tables.exec = Jvm.exec) {x y : Int64} (hd : decode c.code pc = .ok (.land, 1)) (hp : pc + 1 = pc')
    (kk : Go p e below s cm sm Q T (mkF m pc' Ls (.long (x &&& y) :: St))) : Go p e below s cm sm Q T (mkF m pc Ls (.long y :: .long x :: St)) := by
  subst hp
  exact Go.st (fun t q => XS.land (g := mkF m pc Ls (.long y :: .long x :: St)) X.here hx rfl hd rfl q) kk
theorem w_ior (X : Stand p l e R s m args below meth c T locs cells slots) (hx : p.tables.exec = Jvm.exec) {x y : Int32} (hd : decode c.code pc = .ok (.ior, 1)) (hp : pc + 1 = pc')
    (kk : Go p e below s cm sm Q T (mkF m pc' Ls (.int (x ||| y) :: St))) : Go p e below s cm sm Q T (mkF m pc Ls (.int y :: .int x :: St)) := by
  subst hp
  exact Go.st (fun t q => XS.ior (g := mkF m pc Ls (.int y :: .int x :: St)) X.here hx rfl hd rfl q) kk
theorem w_lor (X : Stand p l e R s m args below meth c T locs cells slots) (hx : p.tables.exec = Jvm.exec) {x y : Int64} (hd : decode c.code pc = .ok (.lor, 1)) (hp : pc + 1 = pc')
    (kk : Go p e below s cm sm Q T (mkF m pc' Ls (.long (x ||| y) :: St))) : Go p e below s cm sm Q T (mkF m pc Ls (.long y :: .long x :: St)) := by
  subst hp
  exact Go.st (fun t q => XS.lor (g := mkF m pc Ls (.long y :: .long x :: St)) X.here hx rfl hd rfl q) kk
theorem w_ixor (X : Stand p l e R s m args below meth c T locs cells slots) (hx : p.tables.exec = Jvm.exec) {x y : Int32} (hd : decode c.code pc = .ok (.ixor, 1)) (hp : pc + 1 = pc')
    (kk : Go p e below s cm sm Q T (mkF m pc' Ls (.int (x ^^^ y) :: St))) : Go p e below s cm sm Q T (mkF m pc Ls (.int y :: .int x :: St)) := by
  subst hp
  exact Go.st (fun t q => XS.ixor (g := mkF m pc Ls (.int y :: .int x :: St)) X.here hx rfl hd rfl q) kk
theorem w_lxor (X : Stand p l e R s m args below meth c T locs cells slots) (hx : p.tables.exec = Jvm.exec) {x y : Int64} (hd : decode c.code pc = .ok (.lxor, 1)) (hp : pc + 1 = pc')
    (kk : Go p e below s cm sm Q T (mkF m pc' Ls (.long (x ^^^ y) :: St))) : Go p e below s cm sm Q T (mkF m pc Ls (.long y :: .long x :: St)) := by
  subst hp
  exact Go.st (fun t q => XS.lxor (g := mkF m pc Ls (.long y :: .long x :: St)) X.here hx rfl hd rfl q) kk
theorem w_idiv (X : Stand p l e R s m args below meth c T locs cells slots) (hx : p.tables.exec = Jvm.exec) {x y : Int32} (hd : decode c.code pc = .ok (.idiv, 1)) (hp : pc + 1 = pc') (hy : y ≠ 0)
    (kk : Go p e below s cm sm Q T (mkF m pc' Ls (.int (x / y) :: St))) : Go p e below s cm sm Q T (mkF m pc Ls (.int y :: .int x :: St)) := by
  subst hp
  exact Go.st (fun t q => XS.idiv (g := mkF m pc Ls (.int y :: .int x :: St)) X.here hx rfl hd rfl hy q) kk
theorem own_irem (x y : Int32) : x - x / y * y = x % y := by
  apply Int32.toInt_inj.mp
  have h : x.toInt - x.toInt.tdiv y.toInt * y.toInt = x.toInt.tmod y.toInt := by
    have := Int.mul_tdiv_add_tmod x.toInt y.toInt
    rw [Int.mul_comm]; omega
  have hr := (x % y).toInt_lt
  have hl := (x % y).le_toInt
  rw [Int32.toInt_mod] at hr hl
  rw [Int32.toInt_sub, Int32.toInt_mul, Int32.toInt_div, Int32.toInt_mod, Int.bmod_mul_bmod, Int.sub_bmod_bmod, h, Jvm.Kit.bmod32 (by omega) (by omega)]
theorem w_irem (X : Stand p l e R s m args below meth c T locs cells slots) (hx : p.tables.exec = Jvm.exec) {x y : Int32} (hd : decode c.code pc = .ok (.irem, 1)) (hp : pc + 1 = pc') (hy : y ≠ 0)
    (kk : Go p e below s cm sm Q T (mkF m pc' Ls (.int (x % y) :: St))) : Go p e below s cm sm Q T (mkF m pc Ls (.int y :: .int x :: St)) := by
  subst hp
  rw [← own_irem] at kk
  exact Go.st (fun t q => XS.irem (g := mkF m pc Ls (.int y :: .int x :: St)) X.here hx rfl hd rfl hy q) kk
theorem w_ldiv (X : Stand p l e R s m args below meth c T locs cells slots) (hx : p.tables.exec = Jvm.exec) {x y : Int64} (hd : decode c.code pc = .ok (.ldiv, 1)) (hp : pc + 1 = pc') (hy : y ≠ 0)
    (kk : Go p e below s cm sm Q T (mkF m pc' Ls (.long (x / y) :: St))) : Go p e below s cm sm Q T (mkF m pc Ls (.long y :: .long x :: St)) := by
  subst hp
  exact Go.st (fun t q => XS.ldiv (g := mkF m pc Ls (.long y :: .long x :: St)) X.here hx rfl hd rfl hy q) kk
theorem own_lrem (x y : Int64) : x - x / y * y = x % y := by
  apply Int64.toInt_inj.mp
  have h : x.toInt - x.toInt.tdiv y.toInt * y.toInt = x.toInt.tmod y.toInt := by
    have := Int.mul_tdiv_add_tmod x.toInt y.toInt
    rw [Int.mul_comm]; omega
  have hr := (x % y).toInt_lt
  have hl := (x % y).le_toInt
  rw [Int64.toInt_mod] at hr hl
  rw [Int64.toInt_sub, Int64.toInt_mul, Int64.toInt_div, Int64.toInt_mod, Int.bmod_mul_bmod, Int.sub_bmod_bmod, h, Jvm.Kit.bmod64 (by omega) (by omega)]
theorem w_lrem (X : Stand p l e R s m args below meth c T locs cells slots) (hx : p.tables.exec = Jvm.exec) {x y : Int64} (hd : decode c.code pc = .ok (.lrem, 1)) (hp : pc + 1 = pc') (hy : y ≠ 0)
    (kk : Go p e below s cm sm Q T (mkF m pc' Ls (.long (x % y) :: St))) : Go p e below s cm sm Q T (mkF m pc Ls (.long y :: .long x :: St)) := by
  subst hp
  rw [← own_lrem] at kk
  exact Go.st (fun t q => XS.lrem (g := mkF m pc Ls (.long y :: .long x :: St)) X.here hx rfl hd rfl hy q) kk
theorem w_ineg (X : Stand p l e R s m args below meth c T locs cells slots) (hx : p.tables.exec = Jvm.exec) {x : Int32} (hd : decode c.code pc = .ok (.ineg, 1)) (hp : pc + 1 = pc')
    (kk : Go p e below s cm sm Q T (mkF m pc' Ls (.int (-x) :: St))) : Go p e below s cm sm Q T (mkF m pc Ls (.int x :: St)) := by
  subst hp
  exact Go.st (fun t q => XS.ineg (g := mkF m pc Ls (.int x :: St)) X.here hx rfl hd rfl q) kk
theorem w_lneg (X : Stand p l e R s m args below meth c T locs cells slots) (hx : p.tables.exec = Jvm.exec) {x : Int64} (hd : decode c.code pc = .ok (.lneg, 1)) (hp : pc + 1 = pc')
    (kk : Go p e below s cm sm Q T (mkF m pc' Ls (.long (-x) :: St))) : Go p e below s cm sm Q T (mkF m pc Ls (.long x :: St)) := by
  subst hp
  exact Go.st (fun t q => XS.lneg (g := mkF m pc Ls (.long x :: St)) X.here hx rfl hd rfl q) kk
theorem w_i2l (X : Stand p l e R s m args below meth c T locs cells slots) (hx : p.tables.exec = Jvm.exec) {x : Int32} (hd : decode c.code pc = .ok (.i2l, 1)) (hp : pc + 1 = pc')
    (kk : Go p e below s cm sm Q T (mkF m pc' Ls (.long x.toInt64 :: St))) : Go p e below s cm sm Q T (mkF m pc Ls (.int x :: St)) := by
  subst hp
  exact Go.st (fun t q => XS.i2l (g := mkF m pc Ls (.int x :: St)) X.here hx rfl hd rfl q) kk
theorem w_l2i (X : Stand p l e R s m args below meth c T locs cells slots) (hx : p.tables.exec = Jvm.exec) {x : Int64} (hd : decode c.code pc = .ok (.l2i, 1)) (hp : pc + 1 = pc')
    (kk : Go p e below s cm sm Q T (mkF m pc' Ls (.int x.toInt32 :: St))) : Go p e below s cm sm Q T (mkF m pc Ls (.long x :: St)) := by
  subst hp
  exact Go.st (fun t q => XS.l2i (g := mkF m pc Ls (.long x :: St)) X.here hx rfl hd rfl q) kk
theorem w_i2b (X : Stand p l e R s m args below meth c T locs cells slots) (hx : p.tables.exec = Jvm.exec) {x : Int32} (hd : decode c.code pc = .ok (.i2b, 1)) (hp : pc + 1 = pc')
    (kk : Go p e below s cm sm Q T (mkF m pc' Ls (.int x.toInt8.toInt32 :: St))) : Go p e below s cm sm Q T (mkF m pc Ls (.int x :: St)) := by
  subst hp
  exact Go.st (fun t q => XS.i2b (g := mkF m pc Ls (.int x :: St)) X.here hx rfl hd rfl q) kk
theorem w_i2c (X : Stand p l e R s m args below meth c T locs cells slots) (hx : p.tables.exec = Jvm.exec) {x : Int32} (hd : decode c.code pc = .ok (.i2c, 1)) (hp : pc + 1 = pc')
    (kk : Go p e below s cm sm Q T (mkF m pc' Ls (.int x.toUInt32.toUInt16.toUInt32.toInt32 :: St))) : Go p e below s cm sm Q T (mkF m pc Ls (.int x :: St)) := by
  subst hp
  exact Go.st (fun t q => XS.i2c (g := mkF m pc Ls (.int x :: St)) X.here hx rfl hd rfl q) kk
theorem w_ishl (X : Stand p l e R s m args below meth c T locs cells slots) (hx : p.tables.exec = Jvm.exec) {x y : Int32} (hd : decode c.code pc = .ok (.ishl, 1)) (hp : pc + 1 = pc')
    (kk : Go p e below s cm sm Q T (mkF m pc' Ls (.int (x <<< (y &&& 31)) :: St))) : Go p e below s cm sm Q T (mkF m pc Ls (.int y :: .int x :: St)) := by
  subst hp
  exact Go.st (fun t q => XS.ishl (g := mkF m pc Ls (.int y :: .int x :: St)) X.here hx rfl hd rfl q) kk
theorem w_ishr (X : Stand p l e R s m args below meth c T locs cells slots) (hx : p.tables.exec = Jvm.exec) {x y : Int32} (hd : decode c.code pc = .ok (.ishr, 1)) (hp : pc + 1 = pc')
    (kk : Go p e below s cm sm Q T (mkF m pc' Ls (.int (x >>> (y &&& 31)) :: St))) : Go p e below s cm sm Q T (mkF m pc Ls (.int y :: .int x :: St)) := by
  subst hp
  exact Go.st (fun t q => XS.ishr (g := mkF m pc Ls (.int y :: .int x :: St)) X.here hx rfl hd rfl q) kk
theorem w_iushr (X : Stand p l e R s m args below meth c T locs cells slots) (hx : p.tables.exec = Jvm.exec) {x y : Int32} (hd : decode c.code pc = .ok (.iushr, 1)) (hp : pc + 1 = pc')
    (kk : Go p e below s cm sm Q T (mkF m pc' Ls (.int (jushr x y) :: St))) : Go p e below s cm sm Q T (mkF m pc Ls (.int y :: .int x :: St)) := by
  subst hp
  exact Go.st (fun t q => XS.iushr (g := mkF m pc Ls (.int y :: .int x :: St)) X.here hx rfl hd rfl q) kk
theorem w_lshl (X : Stand p l e R s m args below meth c T locs cells slots) (hx : p.tables.exec = Jvm.exec) {x : Int64} {y : Int32} (hd : decode c.code pc = .ok (.lshl, 1)) (hp : pc + 1 = pc')
    (kk : Go p e below s cm sm Q T (mkF m pc' Ls (.long (x <<< (y &&& 0x3f).toInt64) :: St))) : Go p e below s cm sm Q T (mkF m pc Ls (.int y :: .long x :: St)) := by
  subst hp
  exact Go.st (fun t q => XS.lshl (g := mkF m pc Ls (.int y :: .long x :: St)) X.here hx rfl hd rfl q) kk
theorem w_lshr (X : Stand p l e R s m args below meth c T locs cells slots) (hx : p.tables.exec = Jvm.exec) {x : Int64} {y : Int32} (hd : decode c.code pc = .ok (.lshr, 1)) (hp : pc + 1 = pc')
    (kk : Go p e below s cm sm Q T (mkF m pc' Ls (.long (x >>> (y &&& 0x3f).toInt64) :: St))) : Go p e below s cm sm Q T (mkF m pc Ls (.int y :: .long x :: St)) := by
  subst hp
  exact Go.st (fun t q => XS.lshr (g := mkF m pc Ls (.int y :: .long x :: St)) X.here hx rfl hd rfl q) kk
theorem w_lushr (X : Stand p l e R s m args below meth c T locs cells slots) (hx : p.tables.exec = Jvm.exec) {x : Int64} {y : Int32} (hd : decode c.code pc = .ok (.lushr, 1)) (hp : pc + 1 = pc')
    (kk : Go p e below s cm sm Q T (mkF m pc' Ls (.long (jlushr x y) :: St))) : Go p e below s cm sm Q T (mkF m pc Ls (.int y :: .long x :: St)) := by
  subst hp
  exact Go.st (fun t q => XS.lushr (g := mkF m pc Ls (.int y :: .long x :: St)) X.here hx rfl hd rfl q) kk
theorem w_lcmp (X : Stand p l e R s m args below meth c T locs cells slots) (hx : p.tables.exec = Jvm.exec) {x y : Int64} (hd : decode c.code pc = .ok (.lcmp, 1)) (hp : pc + 1 = pc')
    (kk : Go p e below s cm sm Q T (mkF m pc' Ls (.int (lcmpW x y) :: St))) : Go p e below s cm sm Q T (mkF m pc Ls (.long y :: .long x :: St)) := by
  subst hp
  exact Go.st (fun t q => XS.lcmp (g := mkF m pc Ls (.long y :: .long x :: St)) X.here hx rfl hd rfl q) kk
theorem w_dup (X : Stand p l e R s m args below meth c T locs cells slots) (hx : p.tables.exec = Jvm.exec) {x : Value} (hd : decode c.code pc = .ok (.dup, 1)) (hp : pc + 1 = pc') (hv : x.category = 1)
    (kk : Go p e below s cm sm Q T (mkF m pc' Ls (x :: x :: St))) : Go p e below s cm sm Q T (mkF m pc Ls (x :: St)) := by
  subst hp
  exact Go.st (fun t q => XS.dup (g := mkF m pc Ls (x :: St)) X.here hx rfl hd rfl hv q) kk
theorem w_pop (X : Stand p l e R s m args below meth c T locs cells slots) (hx : p.tables.exec = Jvm.exec) {x : Value} (hd : decode c.code pc = .ok (.pop, 1)) (hp : pc + 1 = pc') (hv : x.category = 1)
    (kk : Go p e below s cm sm Q T (mkF m pc' Ls (St))) : Go p e below s cm sm Q T (mkF m pc Ls (x :: St)) := by
  subst hp
  exact Go.st (fun t q => XS.pop (g := mkF m pc Ls (x :: St)) X.here hx rfl hd rfl hv q) kk
theorem w_dupX1 (X : Stand p l e R s m args below meth c T locs cells slots) (hx : p.tables.exec = Jvm.exec) {x y : Value} (hd : decode c.code pc = .ok (.dup_x1, 1)) (hp : pc + 1 = pc') (hv : x.category = 1) (hv' : y.category = 1)
    (kk : Go p e below s cm sm Q T (mkF m pc' Ls (x :: y :: x :: St))) : Go p e below s cm sm Q T (mkF m pc Ls (x :: y :: St)) := by
  subst hp
  exact Go.st (fun t q => XS.dupX1 (g := mkF m pc Ls (x :: y :: St)) X.here hx rfl hd rfl hv hv' q) kk
theorem w_iinc (X : Stand p l e R s m args below meth c T locs cells slots) (hx : p.tables.exec = Jvm.exec) {k : Nat} {cst : Int} {x w : Int32} (hd : decode c.code pc = .ok (.iinc k cst, 3)) (hp : pc + 3 = pc') (hl : Ls[k]? = some (.val (.int x))) (hv : Int32.ofInt cst = w) (hl' : storeLocals Ls k (.int (x + w)) = some Ls')
    (kk : Go p e below s cm sm Q T (mkF m pc' Ls' St)) : Go p e below s cm sm Q T (mkF m pc Ls St) := by
  subst hp hv
  exact Go.st (fun t q => XS.iinc (g := mkF m pc Ls St) X.here hx rfl hd hl hl' q) kk
theorem w_goto (X : Stand p l e R s m args below meth c T locs cells slots) (hx : p.tables.exec = Jvm.exec) {o : Int} (hd : decode c.code pc = .ok (.goto o, 3)) (ho : 0 ≤ (pc : Int) + o) (hp : ((pc : Int) + o).toNat = pc')
    (kk : Go p e below s cm sm Q T (mkF m pc' Ls St)) : Go p e below s cm sm Q T (mkF m pc Ls St) :=
  Go.st (fun t q => XS.goto (g := mkF m pc Ls St) X.here hx rfl (pc0 := pc) (pc' := pc') rfl hd ho hp q) kk
theorem w_icmp0 (X : Stand p l e R s m args below meth c T locs cells slots) (hx : p.tables.exec = Jvm.exec) {cd : ClassFile.Cond} {x y : Int32} {o : Int} {pt pf : Nat} (hd : decode c.code pc = .ok (.if_icmp cd o, 3)) (hf : pc + 3 = pf) (ho : 0 ≤ (pc : Int) + o) (hp : ((pc : Int) + o).toNat = pt)
    (kT : if_icmp.holds cd x y = true → Go p e below s cm sm Q T (mkF m pt Ls St)) (kF : if_icmp.holds cd x y = false → Go p e below s cm sm Q T (mkF m pf Ls St)) : Go p e below s cm sm Q T (mkF m pc Ls (.int y :: .int x :: St)) := by
  subst hf
  cases hc : if_icmp.holds cd x y with
  | true => exact Go.st (fun t q => XS.icmpYes (g := mkF m pc Ls (.int y :: .int x :: St)) X.here hx rfl (pc0 := pc) (pc' := pt) rfl hd rfl hc ho hp q) (kT hc)
  | false => exact Go.st (fun t q => XS.icmpNo (g := mkF m pc Ls (.int y :: .int x :: St)) X.here hx rfl hd rfl hc q) (kF hc)
theorem w_if0 (X : Stand p l e R s m args below meth c T locs cells slots) (hx : p.tables.exec = Jvm.exec) {cd : ClassFile.Cond} {x : Int32} {o : Int} {pt pf : Nat} (hd : decode c.code pc = .ok (.ifCond cd o, 3)) (hf : pc + 3 = pf) (ho : 0 ≤ (pc : Int) + o) (hp : ((pc : Int) + o).toNat = pt)
    (kT : if_icmp.holds cd x 0 = true → Go p e below s cm sm Q T (mkF m pt Ls St)) (kF : if_icmp.holds cd x 0 = false → Go p e below s cm sm Q T (mkF m pf Ls St)) : Go p e below s cm sm Q T (mkF m pc Ls (.int x :: St)) := by
  subst hf
  cases hc : if_icmp.holds cd x 0 with
  | true => exact Go.st (fun t q => XS.ifYes (g := mkF m pc Ls (.int x :: St)) X.here hx rfl (pc0 := pc) (pc' := pt) rfl hd rfl ((if0 _ _).trans hc) ho hp q) (kT hc)
  | false => exact Go.st (fun t q => XS.ifNo (g := mkF m pc Ls (.int x :: St)) X.here hx rfl hd rfl ((if0 _ _).trans hc) q) (kF hc)
theorem h_lt {x y : Int32} : (if_icmp.holds .lt x y = true → x < y) ∧ (if_icmp.holds .lt x y = false → ¬ x < y) := ⟨fun h => Decidable.byContradiction fun q => by simp [(flt q).1] at h, fun h q => by simp [(tlt q).1] at h⟩
theorem h_ge {x y : Int32} : (if_icmp.holds .ge x y = true → ¬ x < y) ∧ (if_icmp.holds .ge x y = false → x < y) := ⟨fun h q => by simp [(tlt q).2.1] at h, fun h => Decidable.byContradiction fun q => by simp [(flt q).2.1] at h⟩
theorem h_gt {x y : Int32} : (if_icmp.holds .gt x y = true → y < x) ∧ (if_icmp.holds .gt x y = false → ¬ y < x) := ⟨fun h => Decidable.byContradiction fun q => by simp [(flt q).2.2.1] at h, fun h q => by simp [(tlt q).2.2.1] at h⟩
theorem h_le {x y : Int32} : (if_icmp.holds .le x y = true → ¬ y < x) ∧ (if_icmp.holds .le x y = false → y < x) := ⟨fun h q => by simp [(tlt q).2.2.2] at h, fun h => Decidable.byContradiction fun q => by simp [(flt q).2.2.2] at h⟩
theorem h_eq {x y : Int32} : (if_icmp.holds .eq x y = true → x = y) ∧ (if_icmp.holds .eq x y = false → ¬ x = y) := ⟨fun h => Decidable.byContradiction fun q => by simp [(feq q).1] at h, fun h q => by simp [(teq q).1] at h⟩
theorem h_ne {x y : Int32} : (if_icmp.holds .ne x y = true → ¬ x = y) ∧ (if_icmp.holds .ne x y = false → x = y) := ⟨fun h q => by simp [(teq q).2] at h, fun h => Decidable.byContradiction fun q => by simp [(feq q).2] at h⟩
theorem w_icmp_lt (X : Stand p l e R s m args below meth c T locs cells slots) (hx : p.tables.exec = Jvm.exec) {x y : Int32} {o : Int} {pt pf : Nat} (hd : decode c.code pc = .ok (.if_icmp .lt o, 3)) (hf : pc + 3 = pf) (ho : 0 ≤ (pc : Int) + o) (hp : ((pc : Int) + o).toNat = pt)
    (kT : x < y → Go p e below s cm sm Q T (mkF m pt Ls St)) (kF : ¬ (x < y) → Go p e below s cm sm Q T (mkF m pf Ls St)) : Go p e below s cm sm Q T (mkF m pc Ls (.int y :: .int x :: St)) :=
  w_icmp0 X hx hd hf ho hp (fun h => kT (h_lt.1 h)) (fun h => kF (h_lt.2 h))
theorem w_if_lt (X : Stand p l e R s m args below meth c T locs cells slots) (hx : p.tables.exec = Jvm.exec) {x : Int32} {o : Int} {pt pf : Nat} (hd : decode c.code pc = .ok (.ifCond .lt o, 3)) (hf : pc + 3 = pf) (ho : 0 ≤ (pc : Int) + o) (hp : ((pc : Int) + o).toNat = pt)
    (kT : x < 0 → Go p e below s cm sm Q T (mkF m pt Ls St)) (kF : ¬ (x < 0) → Go p e below s cm sm Q T (mkF m pf Ls St)) : Go p e below s cm sm Q T (mkF m pc Ls (.int x :: St)) :=
  w_if0 X hx hd hf ho hp (fun h => kT (h_lt.1 h)) (fun h => kF (h_lt.2 h))
theorem w_ifL_lt (X : Stand p l e R s m args below meth c T locs cells slots) (hx : p.tables.exec = Jvm.exec) {x y : Int64} {o : Int} {pt pf : Nat} (hd : decode c.code pc = .ok (.ifCond .lt o, 3)) (hf : pc + 3 = pf) (ho : 0 ≤ (pc : Int) + o) (hp : ((pc : Int) + o).toNat = pt)
    (kT : x < y → Go p e below s cm sm Q T (mkF m pt Ls St)) (kF : ¬ (x < y) → Go p e below s cm sm Q T (mkF m pf Ls St)) : Go p e below s cm sm Q T (mkF m pc Ls (.int (lcmpW x y) :: St)) :=
  w_if_lt X hx hd hf ho hp (fun q => kT ((lw_lt x y).1 q)) (fun q => kF (fun r => q ((lw_lt x y).2 r)))
theorem w_icmp_ge (X : Stand p l e R s m args below meth c T locs cells slots) (hx : p.tables.exec = Jvm.exec) {x y : Int32} {o : Int} {pt pf : Nat} (hd : decode c.code pc = .ok (.if_icmp .ge o, 3)) (hf : pc + 3 = pf) (ho : 0 ≤ (pc : Int) + o) (hp : ((pc : Int) + o).toNat = pt)
    (kT : ¬ (x < y) → Go p e below s cm sm Q T (mkF m pt Ls St)) (kF : x < y → Go p e below s cm sm Q T (mkF m pf Ls St)) : Go p e below s cm sm Q T (mkF m pc Ls (.int y :: .int x :: St)) :=
  w_icmp0 X hx hd hf ho hp (fun h => kT (h_ge.1 h)) (fun h => kF (h_ge.2 h))
theorem w_if_ge (X : Stand p l e R s m args below meth c T locs cells slots) (hx : p.tables.exec = Jvm.exec) {x : Int32} {o : Int} {pt pf : Nat} (hd : decode c.code pc = .ok (.ifCond .ge o, 3)) (hf : pc + 3 = pf) (ho : 0 ≤ (pc : Int) + o) (hp : ((pc : Int) + o).toNat = pt)
    (kT : ¬ (x < 0) → Go p e below s cm sm Q T (mkF m pt Ls St)) (kF : x < 0 → Go p e below s cm sm Q T (mkF m pf Ls St)) : Go p e below s cm sm Q T (mkF m pc Ls (.int x :: St)) :=
  w_if0 X hx hd hf ho hp (fun h => kT (h_ge.1 h)) (fun h => kF (h_ge.2 h))
theorem w_ifL_ge (X : Stand p l e R s m args below meth c T locs cells slots) (hx : p.tables.exec = Jvm.exec) {x y : Int64} {o : Int} {pt pf : Nat} (hd : decode c.code pc = .ok (.ifCond .ge o, 3)) (hf : pc + 3 = pf) (ho : 0 ≤ (pc : Int) + o) (hp : ((pc : Int) + o).toNat = pt)
    (kT : ¬ (x < y) → Go p e below s cm sm Q T (mkF m pt Ls St)) (kF : x < y → Go p e below s cm sm Q T (mkF m pf Ls St)) : Go p e below s cm sm Q T (mkF m pc Ls (.int (lcmpW x y) :: St)) :=
  w_if_ge X hx hd hf ho hp (fun q => kT (fun r => q ((lw_lt x y).2 r))) (fun q => kF ((lw_lt x y).1 q))
theorem w_icmp_gt (X : Stand p l e R s m args below meth c T locs cells slots) (hx : p.tables.exec = Jvm.exec) {x y : Int32} {o : Int} {pt pf : Nat} (hd : decode c.code pc = .ok (.if_icmp .gt o, 3)) (hf : pc + 3 = pf) (ho : 0 ≤ (pc : Int) + o) (hp : ((pc : Int) + o).toNat = pt)
    (kT : y < x → Go p e below s cm sm Q T (mkF m pt Ls St)) (kF : ¬ (y < x) → Go p e below s cm sm Q T (mkF m pf Ls St)) : Go p e below s cm sm Q T (mkF m pc Ls (.int y :: .int x :: St)) :=
  w_icmp0 X hx hd hf ho hp (fun h => kT (h_gt.1 h)) (fun h => kF (h_gt.2 h))
theorem w_if_gt (X : Stand p l e R s m args below meth c T locs cells slots) (hx : p.tables.exec = Jvm.exec) {x : Int32} {o : Int} {pt pf : Nat} (hd : decode c.code pc = .ok (.ifCond .gt o, 3)) (hf : pc + 3 = pf) (ho : 0 ≤ (pc : Int) + o) (hp : ((pc : Int) + o).toNat = pt)
    (kT : 0 < x → Go p e below s cm sm Q T (mkF m pt Ls St)) (kF : ¬ (0 < x) → Go p e below s cm sm Q T (mkF m pf Ls St)) : Go p e below s cm sm Q T (mkF m pc Ls (.int x :: St)) :=
  w_if0 X hx hd hf ho hp (fun h => kT (h_gt.1 h)) (fun h => kF (h_gt.2 h))
theorem w_ifL_gt (X : Stand p l e R s m args below meth c T locs cells slots) (hx : p.tables.exec = Jvm.exec) {x y : Int64} {o : Int} {pt pf : Nat} (hd : decode c.code pc = .ok (.ifCond .gt o, 3)) (hf : pc + 3 = pf) (ho : 0 ≤ (pc : Int) + o) (hp : ((pc : Int) + o).toNat = pt)
    (kT : y < x → Go p e below s cm sm Q T (mkF m pt Ls St)) (kF : ¬ (y < x) → Go p e below s cm sm Q T (mkF m pf Ls St)) : Go p e below s cm sm Q T (mkF m pc Ls (.int (lcmpW x y) :: St)) :=
  w_if_gt X hx hd hf ho hp (fun q => kT ((lw_gt x y).1 q)) (fun q => kF (fun r => q ((lw_gt x y).2 r)))
theorem w_icmp_le (X : Stand p l e R s m args below meth c T locs cells slots) (hx : p.tables.exec = Jvm.exec) {x y : Int32} {o : Int} {pt pf : Nat} (hd : decode c.code pc = .ok (.if_icmp .le o, 3)) (hf : pc + 3 = pf) (ho : 0 ≤ (pc : Int) + o) (hp : ((pc : Int) + o).toNat = pt)
    (kT : ¬ (y < x) → Go p e below s cm sm Q T (mkF m pt Ls St)) (kF : y < x → Go p e below s cm sm Q T (mkF m pf Ls St)) : Go p e below s cm sm Q T (mkF m pc Ls (.int y :: .int x :: St)) :=
  w_icmp0 X hx hd hf ho hp (fun h => kT (h_le.1 h)) (fun h => kF (h_le.2 h))
theorem w_if_le (X : Stand p l e R s m args below meth c T locs cells slots) (hx : p.tables.exec = Jvm.exec) {x : Int32} {o : Int} {pt pf : Nat} (hd : decode c.code pc = .ok (.ifCond .le o, 3)) (hf : pc + 3 = pf) (ho : 0 ≤ (pc : Int) + o) (hp : ((pc : Int) + o).toNat = pt)
    (kT : ¬ (0 < x) → Go p e below s cm sm Q T (mkF m pt Ls St)) (kF : 0 < x → Go p e below s cm sm Q T (mkF m pf Ls St)) : Go p e below s cm sm Q T (mkF m pc Ls (.int x :: St)) :=
  w_if0 X hx hd hf ho hp (fun h => kT (h_le.1 h)) (fun h => kF (h_le.2 h))
theorem w_ifL_le (X : Stand p l e R s m args below meth c T locs cells slots) (hx : p.tables.exec = Jvm.exec) {x y : Int64} {o : Int} {pt pf : Nat} (hd : decode c.code pc = .ok (.ifCond .le o, 3)) (hf : pc + 3 = pf) (ho : 0 ≤ (pc : Int) + o) (hp : ((pc : Int) + o).toNat = pt)
    (kT : ¬ (y < x) → Go p e below s cm sm Q T (mkF m pt Ls St)) (kF : y < x → Go p e below s cm sm Q T (mkF m pf Ls St)) : Go p e below s cm sm Q T (mkF m pc Ls (.int (lcmpW x y) :: St)) :=
  w_if_le X hx hd hf ho hp (fun q => kT (fun r => q ((lw_gt x y).2 r))) (fun q => kF ((lw_gt x y).1 q))
theorem w_icmp_eq (X : Stand p l e R s m args below meth c T locs cells slots) (hx : p.tables.exec = Jvm.exec) {x y : Int32} {o : Int} {pt pf : Nat} (hd : decode c.code pc = .ok (.if_icmp .eq o, 3)) (hf : pc + 3 = pf) (ho : 0 ≤ (pc : Int) + o) (hp : ((pc : Int) + o).toNat = pt)
    (kT : x = y → Go p e below s cm sm Q T (mkF m pt Ls St)) (kF : ¬ (x = y) → Go p e below s cm sm Q T (mkF m pf Ls St)) : Go p e below s cm sm Q T (mkF m pc Ls (.int y :: .int x :: St)) :=
  w_icmp0 X hx hd hf ho hp (fun h => kT (h_eq.1 h)) (fun h => kF (h_eq.2 h))
theorem w_if_eq (X : Stand p l e R s m args below meth c T locs cells slots) (hx : p.tables.exec = Jvm.exec) {x : Int32} {o : Int} {pt pf : Nat} (hd : decode c.code pc = .ok (.ifCond .eq o, 3)) (hf : pc + 3 = pf) (ho : 0 ≤ (pc : Int) + o) (hp : ((pc : Int) + o).toNat = pt)
    (kT : x = 0 → Go p e below s cm sm Q T (mkF m pt Ls St)) (kF : ¬ (x = 0) → Go p e below s cm sm Q T (mkF m pf Ls St)) : Go p e below s cm sm Q T (mkF m pc Ls (.int x :: St)) :=
  w_if0 X hx hd hf ho hp (fun h => kT (h_eq.1 h)) (fun h => kF (h_eq.2 h))
theorem w_ifL_eq (X : Stand p l e R s m args below meth c T locs cells slots) (hx : p.tables.exec = Jvm.exec) {x y : Int64} {o : Int} {pt pf : Nat} (hd : decode c.code pc = .ok (.ifCond .eq o, 3)) (hf : pc + 3 = pf) (ho : 0 ≤ (pc : Int) + o) (hp : ((pc : Int) + o).toNat = pt)
    (kT : x = y → Go p e below s cm sm Q T (mkF m pt Ls St)) (kF : ¬ (x = y) → Go p e below s cm sm Q T (mkF m pf Ls St)) : Go p e below s cm sm Q T (mkF m pc Ls (.int (lcmpW x y) :: St)) :=
  w_if_eq X hx hd hf ho hp (fun q => kT ((lw_eq x y).1 q)) (fun q => kF (fun r => q ((lw_eq x y).2 r)))
theorem w_icmp_ne (X : Stand p l e R s m args below meth c T locs cells slots) (hx : p.tables.exec = Jvm.exec) {x y : Int32} {o : Int} {pt pf : Nat} (hd : decode c.code pc = .ok (.if_icmp .ne o, 3)) (hf : pc + 3 = pf) (ho : 0 ≤ (pc : Int) + o) (hp : ((pc : Int) + o).toNat = pt)
    (kT : ¬ (x = y) → Go p e below s cm sm Q T (mkF m pt Ls St)) (kF : x = y → Go p e below s cm sm Q T (mkF m pf Ls St)) : Go p e below s cm sm Q T (mkF m pc Ls (.int y :: .int x :: St)) :=
  w_icmp0 X hx hd hf ho hp (fun h => kT (h_ne.1 h)) (fun h => kF (h_ne.2 h))
theorem w_if_ne (X : Stand p l e R s m args below meth c T locs cells slots) (hx : p.tables.exec = Jvm.exec) {x : Int32} {o : Int} {pt pf : Nat} (hd : decode c.code pc = .ok (.ifCond .ne o, 3)) (hf : pc + 3 = pf) (ho : 0 ≤ (pc : Int) + o) (hp : ((pc : Int) + o).toNat = pt)
    (kT : ¬ (x = 0) → Go p e below s cm sm Q T (mkF m pt Ls St)) (kF : x = 0 → Go p e below s cm sm Q T (mkF m pf Ls St)) : Go p e below s cm sm Q T (mkF m pc Ls (.int x :: St)) :=
  w_if0 X hx hd hf ho hp (fun h => kT (h_ne.1 h)) (fun h => kF (h_ne.2 h))
theorem w_ifL_ne (X : Stand p l e R s m args below meth c T locs cells slots) (hx : p.tables.exec = Jvm.exec) {x y : Int64} {o : Int} {pt pf : Nat} (hd : decode c.code pc = .ok (.ifCond .ne o, 3)) (hf : pc + 3 = pf) (ho : 0 ≤ (pc : Int) + o) (hp : ((pc : Int) + o).toNat = pt)
    (kT : ¬ (x = y) → Go p e below s cm sm Q T (mkF m pt Ls St)) (kF : x = y → Go p e below s cm sm Q T (mkF m pf Ls St)) : Go p e below s cm sm Q T (mkF m pc Ls (.int (lcmpW x y) :: St)) :=
  w_if_ne X hx hd hf ho hp (fun q => kT (fun r => q ((lw_eq x y).2 r))) (fun q => kF ((lw_eq x y).1 q))
theorem w_ldc (X : Stand p l e R s m args below meth c T locs cells slots) (hx : p.tables.exec = Jvm.exec) (hZ : Z.Warmed39 s.vm) {own : String} {index : Nat} {v : Int32} (hown : s.vm.findClass own = some m.cls) (w : (Jvm.Cond.constant own index v).before a0 Z = true) (hd : decode c.code pc = .ok (.ldc index, 2)) (hp : pc + 2 = pc')
    (kk : Go p e below s cm sm Q T (mkF m pc' Ls (.int v :: St))) : Go p e below s cm sm Q T (mkF m pc Ls St) := by
  subst hp
  exact Go.st (fun t q => X.ldcInt hx hown (mvT hZ w) (g := mkF m pc Ls St) rfl hd t q) kk
theorem w_ldcw (X : Stand p l e R s m args below meth c T locs cells slots) (hx : p.tables.exec = Jvm.exec) (hZ : Z.Warmed39 s.vm) {own : String} {index : Nat} {v : Int32} (hown : s.vm.findClass own = some m.cls) (w : (Jvm.Cond.constant own index v).before a0 Z = true) (hd : decode c.code pc = .ok (.ldc_w index, 3)) (hp : pc + 3 = pc')
    (kk : Go p e below s cm sm Q T (mkF m pc' Ls (.int v :: St))) : Go p e below s cm sm Q T (mkF m pc Ls St) := by
  subst hp
  exact Go.st (fun t q => X.ldcWI hx hown (mvT hZ w) (g := mkF m pc Ls St) rfl hd q) kk
theorem w_ldc2 (X : Stand p l e R s m args below meth c T locs cells slots) (hx : p.tables.exec = Jvm.exec) (hZ : Z.Warmed39 s.vm) {own : String} {index : Nat} {v : Int64} (hown : s.vm.findClass own = some m.cls) (w : (Jvm.Cond.constantLong own index v).before a0 Z = true) (hd : decode c.code pc = .ok (.ldc2_w index, 3)) (hp : pc + 3 = pc')
    (kk : Go p e below s cm sm Q T (mkF m pc' Ls (.long v :: St))) : Go p e below s cm sm Q T (mkF m pc Ls St) := by
  subst hp
  exact Go.st (fun t q => X.ldc2Long hx hown (mvT hZ w) (g := mkF m pc Ls St) rfl hd t q) kk
theorem w_retZ (X : Stand p l e R s m args below meth c T locs cells slots) (hx : p.tables.exec = Jvm.exec) (hret : meth.sig.returnType = some .boolean) (hlk : meth.locks = false) {z : Int32} (hd : decode c.code pc = .ok (.ireturn, 1)) (hc : cells ≤ cm) (hs : slots ≤ sm) (hQ : Q (some (.int (nar .boolean z))) T.heap locs) : Go p e below s cm sm Q T (mkF m pc Ls (.int z :: St)) := by
  obtain ⟨fs, hr, hrun, hended, hW, hsame⟩ := X.leave (v := some (.int (nar .boolean z))) (fun h => by rw [hret] at h; cases h) hlk
  exact ⟨_, _, retN X hx (t := .boolean) hret (by simp) hd hr, hrun, hended, _, _, rfl, hQ, ⟨_, rfl⟩, hW, hsame.mono hc hs⟩
theorem w_retB (X : Stand p l e R s m args below meth c T locs cells slots) (hx : p.tables.exec = Jvm.exec) (hret : meth.sig.returnType = some .byte) (hlk : meth.locks = false) {z : Int32} (hd : decode c.code pc = .ok (.ireturn, 1)) (hc : cells ≤ cm) (hs : slots ≤ sm) (hQ : Q (some (.int (nar .byte z))) T.heap locs) : Go p e below s cm sm Q T (mkF m pc Ls (.int z :: St)) := by
  obtain ⟨fs, hr, hrun, hended, hW, hsame⟩ := X.leave (v := some (.int (nar .byte z))) (fun h => by rw [hret] at h; cases h) hlk
  exact ⟨_, _, retN X hx (t := .byte) hret (by simp) hd hr, hrun, hended, _, _, rfl, hQ, ⟨_, rfl⟩, hW, hsame.mono hc hs⟩
theorem w_retC (X : Stand p l e R s m args below meth c T locs cells slots) (hx : p.tables.exec = Jvm.exec) (hret : meth.sig.returnType = some .char) (hlk : meth.locks = false) {z : Int32} (hd : decode c.code pc = .ok (.ireturn, 1)) (hc : cells ≤ cm) (hs : slots ≤ sm) (hQ : Q (some (.int (nar .char z))) T.heap locs) : Go p e below s cm sm Q T (mkF m pc Ls (.int z :: St)) := by
  obtain ⟨fs, hr, hrun, hended, hW, hsame⟩ := X.leave (v := some (.int (nar .char z))) (fun h => by rw [hret] at h; cases h) hlk
  exact ⟨_, _, retN X hx (t := .char) hret (by simp) hd hr, hrun, hended, _, _, rfl, hQ, ⟨_, rfl⟩, hW, hsame.mono hc hs⟩
theorem w_retS (X : Stand p l e R s m args below meth c T locs cells slots) (hx : p.tables.exec = Jvm.exec) (hret : meth.sig.returnType = some .short) (hlk : meth.locks = false) {z : Int32} (hd : decode c.code pc = .ok (.ireturn, 1)) (hc : cells ≤ cm) (hs : slots ≤ sm) (hQ : Q (some (.int (nar .short z))) T.heap locs) : Go p e below s cm sm Q T (mkF m pc Ls (.int z :: St)) := by
  obtain ⟨fs, hr, hrun, hended, hW, hsame⟩ := X.leave (v := some (.int (nar .short z))) (fun h => by rw [hret] at h; cases h) hlk
  exact ⟨_, _, retN X hx (t := .short) hret (by simp) hd hr, hrun, hended, _, _, rfl, hQ, ⟨_, rfl⟩, hW, hsame.mono hc hs⟩
theorem w_retI (X : Stand p l e R s m args below meth c T locs cells slots) (hx : p.tables.exec = Jvm.exec) (hret : meth.sig.returnType = some .int) (hlk : meth.locks = false) {z : Int32} (hd : decode c.code pc = .ok (.ireturn, 1)) (hc : cells ≤ cm) (hs : slots ≤ sm) (hQ : Q (some (.int z)) T.heap locs) : Go p e below s cm sm Q T (mkF m pc Ls (.int z :: St)) := by
  obtain ⟨fs, hr, hrun, hended, hW, hsame⟩ := X.leave (v := some (.int z)) (fun h => by rw [hret] at h; cases h) hlk
  refine ⟨T.setFrames fs, _, ?_, hrun, hended, _, _, rfl, hQ, ⟨_, rfl⟩, hW, hsame.mono hc hs⟩
  have hm' : T.vm.method? m = some meth := X.method'
  have hn : narrow .int (.int z) = .int z := rfl
  show Steps p.tables e below (T.setTop { method := m, pc := pc, locals := Ls, stack := .int z :: St, locked := none }) _
  jvm_step X.here [X.here.top, hx, hd, hm', hret, hn]
  first | (intro acts; rw [hr _ acts rfl rfl rfl]) | rw [hr _ _ rfl rfl rfl]
  exact Steps.refl _
theorem w_retJ (X : Stand p l e R s m args below meth c T locs cells slots) (hx : p.tables.exec = Jvm.exec) (hret : meth.sig.returnType = some .long) (hlk : meth.locks = false) {z : Int64} (hd : decode c.code pc = .ok (.lreturn, 1)) (hc : cells ≤ cm) (hs : slots ≤ sm) (hQ : Q (some (.long z)) T.heap locs) : Go p e below s cm sm Q T (mkF m pc Ls [.long z]) := by
  obtain ⟨fs, hr, hrun, hended, hW, hsame⟩ := X.leave (v := some (.long z)) (fun h => by rw [hret] at h; cases h) hlk
  exact ⟨T.setFrames fs, _, X.lreturnOut hx hret hd hr, hrun, hended, _, _, rfl, hQ, ⟨_, rfl⟩, hW, hsame.mono hc hs⟩
theorem w_retV (X : Stand p l e R s m args below meth c T locs cells slots) (hx : p.tables.exec = Jvm.exec) (hret : meth.sig.returnType = none) (hlk : meth.locks = false) (hd : decode c.code pc = .ok (.return_, 1)) (hc : cells ≤ cm) (hs : slots ≤ sm) (hQ : Q none T.heap locs) : Go p e below s cm sm Q T (mkF m pc Ls []) := by
  obtain ⟨fs, hr, hrun, hended, hW, hsame⟩ := X.leave (v := none) (fun _ => rfl) hlk
  exact ⟨T.setFrames fs, _, X.returnOut hx hret hd hr, hrun, hended, _, _, rfl, hQ, ⟨_, rfl⟩, hW, hsame.mono hc hs⟩
theorem w_retA (X : Stand p l e R s m args below meth c T locs cells slots) (hx : p.tables.exec = Jvm.exec) {rt : FieldType} (hret : meth.sig.returnType = some rt) (hrt : rt.isReference = true) (hlk : meth.locks = false) {a : Addr} (hd : decode c.code pc = .ok (.areturn, 1)) (hc : cells ≤ cm) (hs : slots ≤ sm) (hQ : Q (some (.ref a)) T.heap locs) : Go p e below s cm sm Q T (mkF m pc Ls (.ref a :: St)) := by
  obtain ⟨fs, hr, hrun, hended, hW, hsame⟩ := X.leave (v := some (.ref a)) (fun h => by rw [hret] at h; cases h) hlk
  refine ⟨T.setFrames fs, _, ?_, hrun, hended, _, _, rfl, hQ, ⟨_, rfl⟩, hW, hsame.mono hc hs⟩
  have hm' : T.vm.method? m = some meth := X.method'
  show Steps p.tables e below (T.setTop { method := m, pc := pc, locals := Ls, stack := .ref a :: St, locked := none }) _
  jvm_step X.here [X.here.top, hx, hd, hm', hret, Value.isRef, hrt]
  first | (intro acts; rw [hr _ acts rfl rfl rfl]) | rw [hr _ _ rfl rfl rfl]
  exact Steps.refl _
theorem Con.back {y : MethodName} {bytes : ByteArray} {maxL : Nat} {ret : Option FieldType} {rm : Room} {len W : Nat} {as' : Array Value} {Qc : Option Value → Heap → List Loc → Prop} (C : Con l Z y bytes maxL ret rm as' h Qc) (hZ : Z.Warmed39 s.vm) (wc : (Jvm.Cond.code y bytes maxL ret).before a0 Z = true) (wz : (Jvm.Cond.initialized y.cls).before a0 Z = true) (hf : rm.frames + 1 ≤ R.frames) (hl : W + (maxL + 11) + rm.locals ≤ R.locals) :
    Back l R p e below s args y len W (fun A a => a = as' ∧ A.U.heap = h ∧ A.cells + rm.cells ≤ R.cells ∧ A.slots + rm.slots ≤ R.slots) (fun A _ v B => ∃ L, Qc v B.U.heap L ∧ B.locs = A.locs ++ L ∧ B.cells = A.cells + rm.cells ∧ B.slots = A.slots + rm.slots) :=
  backOf (C []) hZ wc wz hf hl
theorem w_callS (X : Stand p l e R s m args below meth c T locs cells slots) (hx : p.tables.exec = Jvm.exec) (hZ : Z.Warmed39 s.vm) {own : String} {index : Nat} {y : MethodName} {bytes : ByteArray} {maxL : Nat} {ret : Option FieldType} {rm : Room} {W : Nat} {argsL rest : List Value} {Qc : Option Value → Heap → List Loc → Prop} (hown : s.vm.findClass own = some m.cls) (eT : T.heap = h) (C : Con l Z y bytes maxL ret rm argsL.toArray h Qc) (w1 : (Jvm.Cond.methodLink own index y).before a0 Z = true) (w2 : (Jvm.Cond.static y).before a0 Z = true) (w3 : (Jvm.Cond.initialized y.cls).before a0 Z = true) (w4 : (Jvm.Cond.code y bytes maxL ret).before a0 Z = true) (hy : y.cls ≠ "java/lang/invoke/MethodHandle" ∧ y.cls ≠ "java/lang/invoke/VarHandle")
    (hf : rm.frames + 1 ≤ R.frames) (hl : W + (maxL + 11) + rm.locals ≤ R.locals) (hc : cells + rm.cells ≤ R.cells) (hs : slots + rm.slots ≤ R.slots) (hsz : Ls.size = c.maxLocals) (hlen : ∀ sig, parseMethodDescriptor y.desc = some sig → argsL.length = sig.parameters.length) (hW : (rest.map fun v => v.category).sum ≤ W) (hst : St = argsL.reverse ++ rest) (hd : decode c.code pc = .ok (.invokestatic index, 3)) (hp : pc + 3 = pc')
    (kk : ∀ (T' : State) (L : List Loc) (v : Option Value), Stand p l e R s m args below meth c T' (locs ++ L) (cells + rm.cells) (slots + rm.slots) → Qc v T'.heap L → Go p e below s cm sm Q T' (mkF m pc' Ls (v.toList ++ rest))) : Go p e below s cm sm Q T (mkF m pc Ls St) := by
  subst hp hst
  obtain ⟨v, _, ⟨T1, L1, k1, n1⟩, -, X1, ⟨Lc, hQ, l1, y1, z1⟩, st⟩ := Jvm.LawKit.callS X hx (y := y) hown (mvT hZ w1) (mvT hZ w2) (mvT hZ w3) (mvT hZ w4) hy (C.back (W := W) hZ w4 w3 hf hl) (g := mkF m pc Ls (argsL.reverse ++ rest)) rfl hsz (argsL := argsL) (rest := rest) hlen rfl (by show 2 * 0 + _ ≤ _; rw [Nat.mul_zero, Nat.zero_add]; exact hW) hd (fun _ _ => ⟨rfl, eT, hc, hs⟩)
  dsimp only [Pt.U, Pt.locs, Pt.cells, Pt.slots] at X1 l1 y1 z1 st hQ
  subst l1 y1 z1
  exact Go.st st (kk _ _ _ X1 hQ)
theorem w_callI (X : Stand p l e R s m args below meth c T locs cells slots) (hx : p.tables.exec = Jvm.exec) (hZ : Z.Warmed39 s.vm) {own : String} {index : Nat} {y : MethodName} {bytes : ByteArray} {maxL : Nat} {rm : Room} {W : Nat} {argsL rest : List Value} {Qc : Option Value → Heap → List Loc → Prop} {a : Addr} (hown : s.vm.findClass own = some m.cls) (eT : T.heap = h) (C : Con l Z y bytes maxL none rm (.ref a :: argsL).toArray h Qc) (hn : y.name = "<init>") (w1 : (Jvm.Cond.methodLink own index y).before a0 Z = true) (w2 : (Jvm.Cond.instanceMethod y).before a0 Z = true) (w3 : (Jvm.Cond.initialized y.cls).before a0 Z = true) (w4 : (Jvm.Cond.code y bytes maxL none).before a0 Z = true) (hy : y.cls ≠ "java/lang/invoke/MethodHandle" ∧ y.cls ≠ "java/lang/invoke/VarHandle")
    (hf : rm.frames + 1 ≤ R.frames) (hl : W + (maxL + 11) + rm.locals ≤ R.locals) (hc : cells + rm.cells ≤ R.cells) (hs : slots + rm.slots ≤ R.slots) (hsz : Ls.size = c.maxLocals) (hlen : ∀ sig, parseMethodDescriptor y.desc = some sig → argsL.length = sig.parameters.length) (hW : (rest.map fun v => v.category).sum ≤ W) (hst : St = argsL.reverse ++ .ref a :: rest) (hd : decode c.code pc = .ok (.invokespecial index, 3)) (hp : pc + 3 = pc')
    (kk : ∀ (T' : State) (L : List Loc) (v : Option Value), Stand p l e R s m args below meth c T' (locs ++ L) (cells + rm.cells) (slots + rm.slots) → Qc v T'.heap L → Go p e below s cm sm Q T' (mkF m pc' Ls (v.toList ++ rest))) : Go p e below s cm sm Q T (mkF m pc Ls St) := by
  subst hp hst
  obtain ⟨v, _, ⟨T1, L1, k1, n1⟩, -, X1, ⟨Lc, hQ, l1, y1, z1⟩, st⟩ := X.specialBack hx (y := y) hn hown (mvT hZ w1) (mvT hZ w2) (mvT hZ w4) hy (C.back (W := W) hZ w4 w3 hf hl) (g := mkF m pc Ls (argsL.reverse ++ .ref a :: rest)) rfl hsz (Steps.refl _) (a := a) (argsL := argsL) (rest := rest) hlen rfl (by show 2 * 0 + _ ≤ _; rw [Nat.mul_zero, Nat.zero_add]; exact hW) hd (fun _ _ => ⟨rfl, eT, hc, hs⟩)
  dsimp only [Pt.U, Pt.locs, Pt.cells, Pt.slots] at X1 l1 y1 z1 st hQ
  subst l1 y1 z1
  exact Go.st (fun t q => st.trans q) (kk _ _ _ X1 hQ)
theorem w_callV (X : Stand p l e R s m args below meth c T locs cells slots) (hx : p.tables.exec = Jvm.exec) (hZ : Z.Warmed39 s.vm) {own : String} {index : Nat} {y : MethodName} {bytes : ByteArray} {maxL : Nat} {ret : Option FieldType} {rm : Room} {W : Nat} {argsL rest : List Value} {Qc : Option Value → Heap → List Loc → Prop} {a : Addr} (hown : s.vm.findClass own = some m.cls) (eT : T.heap = h) (E : Exa Z h a y.cls) (C : Con l Z y bytes maxL ret rm (.ref a :: argsL).toArray h Qc) (w1 : (Jvm.Cond.methodLink own index y).before a0 Z = true) (wd : (Jvm.Cond.declares y).before a0 Z = true) (ws : (Jvm.Cond.selects y.cls y y).before a0 Z = true) (w2 : (Jvm.Cond.instanceMethod y).before a0 Z = true) (w3 : (Jvm.Cond.initialized y.cls).before a0 Z = true) (w4 : (Jvm.Cond.code y bytes maxL ret).before a0 Z = true) (hy : y.cls ≠ "java/lang/invoke/MethodHandle" ∧ y.cls ≠ "java/lang/invoke/VarHandle")
    (hf : rm.frames + 1 ≤ R.frames) (hl : W + (maxL + 11) + rm.locals ≤ R.locals) (hc : cells + rm.cells ≤ R.cells) (hs : slots + rm.slots ≤ R.slots) (hsz : Ls.size = c.maxLocals) (hlen : ∀ sig, parseMethodDescriptor y.desc = some sig → argsL.length = sig.parameters.length) (hW : (rest.map fun v => v.category).sum ≤ W) (hst : St = argsL.reverse ++ .ref a :: rest) (hd : decode c.code pc = .ok (.invokevirtual index, 3)) (hp : pc + 3 = pc')
    (kk : ∀ (T' : State) (L : List Loc) (v : Option Value), Stand p l e R s m args below meth c T' (locs ++ L) (cells + rm.cells) (slots + rm.slots) → Qc v T'.heap L → Go p e below s cm sm Q T' (mkF m pc' Ls (v.toList ++ rest))) : Go p e below s cm sm Q T (mkF m pc Ls St) := by
  subst hp hst
  obtain ⟨cq, kq, qa, qb, qc⟩ := isOf hZ eT E
  obtain ⟨v, _, ⟨T1, L1, k1, n1⟩, -, X1, ⟨Lc, hQ, l1, y1, z1⟩, st⟩ := X.virtualBack hx (y := y) (z := y) hown (mvT hZ w1) (mvT hZ wd) (notFace_of_selects (args := #[]) (mvT hZ ws)) (mvT hZ ws) (mvT hZ w2) hy (C.back (W := W) hZ w4 w3 hf hl) qa qc (g := mkF m pc Ls (argsL.reverse ++ .ref a :: rest)) rfl hsz (Steps.refl _) (argsL := argsL) (rest := rest) hlen rfl (by show 2 * 0 + _ ≤ _; rw [Nat.mul_zero, Nat.zero_add]; exact hW) hd (fun _ _ => ⟨rfl, eT, hc, hs⟩)
  dsimp only [Pt.U, Pt.locs, Pt.cells, Pt.slots] at X1 l1 y1 z1 st hQ
  subst l1 y1 z1
  exact Go.st (fun t q => st.trans q) (kk _ _ _ X1 hQ)
theorem w_initO (X : Stand p l e R s m args below meth c T locs cells slots) (hx : p.tables.exec = Jvm.exec) (hZ : Z.Warmed39 s.vm) {own : String} {index : Nat} {a : Addr} (hown : s.vm.findClass own = some m.cls) (eT : T.heap = h) (w1 : (Jvm.Cond.methodLink own index Lib.objectInit).before a0 Z = true) (w2 : (Jvm.Cond.instanceMethod Lib.objectInit).before a0 Z = true) (w3 : (Jvm.Cond.code Lib.objectInit ⟨#[0xb1]⟩ 1 none).before a0 Z = true) (hsz : Ls.size = c.maxLocals) (hd : decode c.code pc = .ok (.invokespecial index, 3)) (hf : 1 ≤ R.frames) {W : Nat} (hW : (St.map fun v => v.category).sum ≤ W) (hl : W + 12 ≤ R.locals) (hp : pc + 3 = pc')
    (kk : ∀ T' : State, Stand p l e R s m args below meth c T' locs cells slots → T'.heap = h → Go p e below s cm sm Q T' (mkF m pc' Ls St)) : Go p e below s cm sm Q T (mkF m pc Ls (.ref a :: St)) := by
  subst hp
  obtain ⟨T1, X1, e1, st⟩ := initO X hx hZ hown w1 w2 w3 eT (g := mkF m pc Ls (.ref a :: St)) rfl hsz rfl hd hf (W := W) (by show 2 * 0 + _ ≤ _; rw [Nat.mul_zero, Nat.zero_add]; exact hW) hl
  exact Go.st st (kk _ X1 e1)
theorem w_getF (X : Stand p l e R s m args below meth c T locs cells slots) (hx : p.tables.exec = Jvm.exec) (hZ : Z.Warmed39 s.vm) {own O n d : String} {index : Nat} {a : Addr} {v : Value} (hown : s.vm.findClass own = some m.cls) (eT : T.heap = h) (F : Fld Z h a O n d v) (w : (Jvm.Cond.fieldLink own index O n d).before a0 Z = true) (hd : decode c.code pc = .ok (.getfield index, 3)) (hp : pc + 3 = pc')
    (kk : ∀ T' : State, Stand p l e R s m args below meth c T' locs cells slots → T'.heap = h → Go p e below s cm sm Q T' (mkF m pc' Ls (v :: St))) : Go p e below s cm sm Q T (mkF m pc Ls (.ref a :: St)) := by
  subst hp
  obtain ⟨T1, X1, e1, st⟩ := getF X hx hZ hown (host := "") (Or.inl w) Via.refl eT F (g := mkF m pc Ls (.ref a :: St)) rfl rfl hd
  exact Go.st st (kk _ X1 e1)
theorem w_putF (X : Stand p l e R s m args below meth c T locs cells slots) (hx : p.tables.exec = Jvm.exec) (hZ : Z.Warmed39 s.vm) {own O n d C : String} {index kn : Nat} {ty : FieldType} {a : Addr} {v old : Value} (hown : s.vm.findClass own = some m.cls) (eT : T.heap = h) (F : Fld Z h a O n d old) (E : Exa Z h a C) (w : (Jvm.Cond.fieldLink own index O n d).before a0 Z = true) (L : (Jvm.Cond.lays C O n d).before a0 Z = true ∨ ((Jvm.Cond.laysFinal C O n d).before a0 Z = true ∧ own = O ∧ meth.name = "<init>")) (wi : (Jvm.Cond.instantiable C kn).before a0 Z = true) (hty : parseFieldDescriptor d = some ty) (hn : narrow ty v = v) (hf : fits ty v = true) (hd : decode c.code pc = .ok (.putfield index, 3)) (hp : pc + 3 = pc')
    (kk : ∀ (T' : State) (h' : Heap), Stand p l e R s m args below meth c T' (locs ++ [⟨a, RoadKit.slotOf Z O n d⟩]) cells slots → T'.heap = h' → Wr h h' a (RoadKit.slotOf Z O n d) v → Go p e below s cm sm Q T' (mkF m pc' Ls St)) : Go p e below s cm sm Q T (mkF m pc Ls (v :: .ref a :: St)) := by
  subst hp
  obtain ⟨T1, h1, X1, e1, W1, st⟩ := putF X hx hZ hown (host := "") (Or.inl w) Via.refl eT F E L wi hty hn hf (g := mkF m pc Ls (v :: .ref a :: St)) rfl rfl hd
  exact Go.st st (kk _ _ X1 e1 W1)
theorem w_newO (X : Stand p l e R s m args below meth c T locs cells slots) (hx : p.tables.exec = Jvm.exec) (hZ : Z.Warmed39 s.vm) {own C : String} {index kn : Nat} (hown : s.vm.findClass own = some m.cls) (eT : T.heap = h) (w : (Jvm.Cond.classLink own index C).before a0 Z = true) (wi : (Jvm.Cond.instantiable C kn).before a0 Z = true) (wz : (Jvm.Cond.initialized C).before a0 Z = true) (hd : decode c.code pc = .ok (.new index, 3)) (hc : cells + 1 ≤ R.cells) (hl : slots + kn ≤ R.slots) (hp : pc + 3 = pc')
    (kk : ∀ (T' : State) (h' : Heap) (b : Addr), Stand p l e R s m args below meth c T' locs (cells + 1) (slots + kn) → T'.heap = h' → Ext h h' → b = h.size → Exa Z h' b C → (∀ {O nm d : String} {ty : FieldType}, Laid Z a0 C O nm d → parseFieldDescriptor d = some ty → Fld Z h' b O nm d (defaultValue ty)) → Go p e below s cm sm Q T' (mkF m pc' Ls (.ref b :: St))) : Go p e below s cm sm Q T (mkF m pc Ls St) := by
  subst hp
  obtain ⟨T1, h1, X1, e1, E1, A1, D1, -, st⟩ := newO X hx hZ hown w wi wz eT (g := mkF m pc Ls St) rfl hd hc hl
  exact Go.st st (kk _ _ _ X1 e1 E1 rfl A1 D1)
/-- an array of ints, bytes, chars, shorts or booleans, by its list -/
def AI (Z : State) (h : Heap) (a : Addr) (ty : FieldType) (vs : List Int32) : Prop := ∃ c : Cell, Arr Z h a c ty ∧ c.slots.toList = vs.map Value.int ∧ vs.length < 2147483648 ∧ Z.vm.findClass ("[" ++ ty.toString) = some c.cls
/-- an array of longs, by its list -/
def AJ (Z : State) (h : Heap) (a : Addr) (vs : List Int64) : Prop := ∃ c : Cell, Arr Z h a c .long ∧ c.slots.toList = vs.map Value.long ∧ vs.length < 2147483648 ∧ Z.vm.findClass "[J" = some c.cls
theorem AI.lt {a : Addr} {ty : FieldType} {vs : List Int32} (F : AI Z h a ty vs) : a < h.size := by obtain ⟨c, q, -⟩ := F; exact q.lt
theorem AI.ext {a : Addr} {ty : FieldType} {vs : List Int32} (F : AI Z h a ty vs) (E : Ext h h') : AI Z h' a ty vs := by obtain ⟨c, q, r⟩ := F; exact ⟨c, q.ext E, r⟩
theorem AI.other {a b : Addr} {ty : FieldType} {vs : List Int32} {sl : Nat} {v : Value} (F : AI Z h a ty vs) (W : Wr h h' b sl v) (q : a ≠ b) : AI Z h' a ty vs := by obtain ⟨c, A, r⟩ := F; exact ⟨c, A.other W q, r⟩
theorem AI.keep {a : Addr} {ty : FieldType} {vs : List Int32} {ws : List Addr} (F : AI Z h a ty vs) (K : Keep h h' ws) (q : a ∉ ws) : AI Z h' a ty vs := by obtain ⟨c, A, r⟩ := F; exact ⟨c, ⟨K.2.1 a c A.1 q, A.2⟩, r⟩
theorem AI.new {a : Addr} {k : ClassId} {z : Int32} {ty : FieldType} (A : Arr Z h a (newA k ty z) ty) (hd : defaultValue ty = .int 0) (hcl : Z.vm.findClass ("[" ++ ty.toString) = some k) : AI Z h a ty (List.replicate z.toNatClampNeg 0) := by
  refine ⟨_, A, ?_, ?_, hcl⟩
  · simp [newA, hd]
  · have := z.toInt_lt; rw [List.length_replicate]; show z.toInt.toNat < _; omega
theorem AI.wr {a : Addr} {ty : FieldType} {vs : List Int32} {j : Nat} {x : Int32} (F : AI Z h a ty vs) (W : Wr h h' a j (Value.int x)) : AI Z h' a ty (vs.set j x) := by
  obtain ⟨c, A, q, r⟩ := F
  refine ⟨_, A.same W, ?_, by simpa using r.1, r.2⟩
  simp [Cell.setSlot, q, List.map_set]
theorem AI.len {a : Addr} {ty : FieldType} {vs : List Int32} (F : AI Z h a ty vs) : vs.length < 2147483648 := by obtain ⟨c, q, r, t, -⟩ := F; exact t
theorem AI.sz {vs : List Int32} {c : Cell} (q : c.slots.toList = vs.map Value.int) : c.slots.size = vs.length := by
  have := congrArg List.length q; simpa using this
theorem AI.at {vs : List Int32} {c : Cell} {j : Nat} {x : Int32} (q : c.slots.toList = vs.map Value.int) (hv : vs[j]? = some x) : c.slots[j]? = some (Value.int x) := by
  rw [← Array.getElem?_toList, q]; simp [hv]
theorem AI.inb {vs : List Int32} {c : Cell} {j : Int32} (q : c.slots.toList = vs.map Value.int) (hj : ¬ j < 0) (hl : j.toNatClampNeg < vs.length) : ¬ (j < 0 ∨ c.slots.size ≤ j.toNatClampNeg) := by
  have := AI.sz q
  rw [this]
  rintro (r | r)
  · exact hj r
  · omega
theorem AJ.lt {a : Addr} {vs : List Int64} (F : AJ Z h a vs) : a < h.size := by obtain ⟨c, q, -⟩ := F; exact q.lt
theorem AJ.ext {a : Addr} {vs : List Int64} (F : AJ Z h a vs) (E : Ext h h') : AJ Z h' a vs := by obtain ⟨c, q, r⟩ := F; exact ⟨c, q.ext E, r⟩
theorem AJ.other {a b : Addr} {vs : List Int64} {sl : Nat} {v : Value} (F : AJ Z h a vs) (W : Wr h h' b sl v) (q : a ≠ b) : AJ Z h' a vs := by obtain ⟨c, A, r⟩ := F; exact ⟨c, A.other W q, r⟩
theorem AJ.keep {a : Addr} {vs : List Int64} {ws : List Addr} (F : AJ Z h a vs) (K : Keep h h' ws) (q : a ∉ ws) : AJ Z h' a vs := by obtain ⟨c, A, r⟩ := F; exact ⟨c, ⟨K.2.1 a c A.1 q, A.2⟩, r⟩
theorem AJ.new {a : Addr} {k : ClassId} {z : Int32} (A : Arr Z h a (newA k .long z) .long) (hcl : Z.vm.findClass "[J" = some k) : AJ Z h a (List.replicate z.toNatClampNeg 0) := by
  refine ⟨_, A, ?_, ?_, hcl⟩
  · simp [newA, defaultValue]
  · have := z.toInt_lt; rw [List.length_replicate]; show z.toInt.toNat < _; omega
theorem AJ.wr {a : Addr} {vs : List Int64} {j : Nat} {x : Int64} (F : AJ Z h a vs) (W : Wr h h' a j (Value.long x)) : AJ Z h' a (vs.set j x) := by
  obtain ⟨c, A, q, r⟩ := F
  refine ⟨_, A.same W, ?_, by simpa using r.1, r.2⟩
  simp [Cell.setSlot, q, List.map_set]
theorem AJ.len {a : Addr} {vs : List Int64} (F : AJ Z h a vs) : vs.length < 2147483648 := by obtain ⟨c, q, r, t, -⟩ := F; exact t
theorem AJ.sz {vs : List Int64} {c : Cell} (q : c.slots.toList = vs.map Value.long) : c.slots.size = vs.length := by
  have := congrArg List.length q; simpa using this
theorem AJ.at {vs : List Int64} {c : Cell} {j : Nat} {x : Int64} (q : c.slots.toList = vs.map Value.long) (hv : vs[j]? = some x) : c.slots[j]? = some (Value.long x) := by
  rw [← Array.getElem?_toList, q]; simp [hv]
theorem AJ.inb {vs : List Int64} {c : Cell} {j : Int32} (q : c.slots.toList = vs.map Value.long) (hj : ¬ j < 0) (hl : j.toNatClampNeg < vs.length) : ¬ (j < 0 ∨ c.slots.size ≤ j.toNatClampNeg) := by
  have := AJ.sz q
  rw [this]
  rintro (r | r)
  · exact hj r
  · omega
theorem w_iaload (X : Stand p l e R s m args below meth c T locs cells slots) (hx : p.tables.exec = Jvm.exec) (hZ : Z.Warmed39 s.vm) {a : Addr} {vs : List Int32} {j : Int32} {v : Int32} (eT : T.heap = h) (F : AI Z h a .int vs) (hj : ¬ j < 0) (hv : vs[j.toNatClampNeg]? = some v) (hd : decode c.code pc = .ok (.iaload, 1)) (hp : pc + 1 = pc')
    (kk : Go p e below s cm sm Q T (mkF m pc' Ls (Value.int v :: St))) : Go p e below s cm sm Q T (mkF m pc Ls (.int j :: .ref a :: St)) := by
  subst hp
  obtain ⟨cl, A, q, r⟩ := F
  exact Go.st (fun t k => X.iaload hx (j := j) (v := Value.int v) (by rw [eT]; exact A.1) (State.isArrayOf_alike hZ.alike A.2.1) A.2.2 (AI.inb q hj (List.getElem?_eq_some_iff.mp hv).1) (AI.at q hv) (g := mkF m pc Ls (.int j :: .ref a :: St)) rfl rfl hd t k) kk
theorem w_baload (X : Stand p l e R s m args below meth c T locs cells slots) (hx : p.tables.exec = Jvm.exec) (hZ : Z.Warmed39 s.vm) {a : Addr} {vs : List Int32} {j : Int32} {v : Int32} (eT : T.heap = h) (F : AI Z h a .byte vs) (hj : ¬ j < 0) (hv : vs[j.toNatClampNeg]? = some v) (hd : decode c.code pc = .ok (.baload, 1)) (hp : pc + 1 = pc')
    (kk : Go p e below s cm sm Q T (mkF m pc' Ls (Value.int v :: St))) : Go p e below s cm sm Q T (mkF m pc Ls (.int j :: .ref a :: St)) := by
  subst hp
  obtain ⟨cl, A, q, r⟩ := F
  exact Go.st (fun t k => X.baloadBytes hx (j := j) (v := Value.int v) (by rw [eT]; exact A.1) (State.isArrayOf_alike hZ.alike A.2.1) A.2.2 (AI.inb q hj (List.getElem?_eq_some_iff.mp hv).1) (AI.at q hv) (g := mkF m pc Ls (.int j :: .ref a :: St)) rfl rfl hd t k) kk
theorem w_laload (X : Stand p l e R s m args below meth c T locs cells slots) (hx : p.tables.exec = Jvm.exec) (hZ : Z.Warmed39 s.vm) {a : Addr} {vs : List Int64} {j : Int32} {v : Int64} (eT : T.heap = h) (F : AJ Z h a vs) (hj : ¬ j < 0) (hv : vs[j.toNatClampNeg]? = some v) (hd : decode c.code pc = .ok (.laload, 1)) (hp : pc + 1 = pc')
    (kk : Go p e below s cm sm Q T (mkF m pc' Ls (Value.long v :: St))) : Go p e below s cm sm Q T (mkF m pc Ls (.int j :: .ref a :: St)) := by
  subst hp
  obtain ⟨cl, A, q, r⟩ := F
  exact Go.st (fun t k => X.laload hx (j := j) (v := Value.long v) (by rw [eT]; exact A.1) (State.isArrayOf_alike hZ.alike A.2.1) A.2.2 (AJ.inb q hj (List.getElem?_eq_some_iff.mp hv).1) (AJ.at q hv) (g := mkF m pc Ls (.int j :: .ref a :: St)) rfl rfl hd t k) kk
theorem w_iastore (X : Stand p l e R s m args below meth c T locs cells slots) (hx : p.tables.exec = Jvm.exec) (hZ : Z.Warmed39 s.vm) {a : Addr} {vs : List Int32} {j : Int32} {x : Int32} (eT : T.heap = h) (F : AI Z h a .int vs) (hj : ¬ j < 0) (hl : j.toNatClampNeg < vs.length) (hd : decode c.code pc = .ok (.iastore, 1)) (hp : pc + 1 = pc')
    (kk : ∀ (T' : State) (h' : Heap), Stand p l e R s m args below meth c T' (locs ++ [⟨a, j.toNatClampNeg⟩]) cells slots → T'.heap = h' → Wr h h' a j.toNatClampNeg (Value.int x) → AI Z h' a .int (vs.set j.toNatClampNeg x) → Go p e below s cm sm Q T' (mkF m pc' Ls St)) : Go p e below s cm sm Q T (mkF m pc Ls (Value.int x :: .int j :: .ref a :: St)) := by
  subst hp
  obtain ⟨cl, A, q, r⟩ := F
  obtain ⟨T1, h1, X1, e1, W1, st⟩ := RoadKit.stI X hx hZ eT A (j := j) (x := x) (AI.inb q hj hl) (g := mkF m pc Ls (Value.int x :: .int j :: .ref a :: St)) rfl rfl hd
  exact Go.st st (kk _ _ X1 e1 W1 (AI.wr ⟨cl, A, q, r⟩ W1))
theorem w_bastore (X : Stand p l e R s m args below meth c T locs cells slots) (hx : p.tables.exec = Jvm.exec) (hZ : Z.Warmed39 s.vm) {a : Addr} {vs : List Int32} {j : Int32} {x : Int32} (eT : T.heap = h) (F : AI Z h a .byte vs) (hj : ¬ j < 0) (hl : j.toNatClampNeg < vs.length) (hd : decode c.code pc = .ok (.bastore, 1)) (hp : pc + 1 = pc')
    (kk : ∀ (T' : State) (h' : Heap), Stand p l e R s m args below meth c T' (locs ++ [⟨a, j.toNatClampNeg⟩]) cells slots → T'.heap = h' → Wr h h' a j.toNatClampNeg (Value.int (nar .byte x)) → AI Z h' a .byte (vs.set j.toNatClampNeg (nar .byte x)) → Go p e below s cm sm Q T' (mkF m pc' Ls St)) : Go p e below s cm sm Q T (mkF m pc Ls (Value.int x :: .int j :: .ref a :: St)) := by
  subst hp
  obtain ⟨cl, A, q, r⟩ := F
  obtain ⟨T1, h1, X1, e1, W1, st⟩ := RoadKit.stB X hx hZ eT A (j := j) (x := x) (AI.inb q hj hl) (g := mkF m pc Ls (Value.int x :: .int j :: .ref a :: St)) rfl rfl hd
  exact Go.st st (kk _ _ X1 e1 W1 (AI.wr ⟨cl, A, q, r⟩ W1))
theorem w_lastore (X : Stand p l e R s m args below meth c T locs cells slots) (hx : p.tables.exec = Jvm.exec) (hZ : Z.Warmed39 s.vm) {a : Addr} {vs : List Int64} {j : Int32} {x : Int64} (eT : T.heap = h) (F : AJ Z h a vs) (hj : ¬ j < 0) (hl : j.toNatClampNeg < vs.length) (hd : decode c.code pc = .ok (.lastore, 1)) (hp : pc + 1 = pc')
    (kk : ∀ (T' : State) (h' : Heap), Stand p l e R s m args below meth c T' (locs ++ [⟨a, j.toNatClampNeg⟩]) cells slots → T'.heap = h' → Wr h h' a j.toNatClampNeg (Value.long x) → AJ Z h' a (vs.set j.toNatClampNeg x) → Go p e below s cm sm Q T' (mkF m pc' Ls St)) : Go p e below s cm sm Q T (mkF m pc Ls (Value.long x :: .int j :: .ref a :: St)) := by
  subst hp
  obtain ⟨cl, A, q, r⟩ := F
  obtain ⟨T1, h1, X1, e1, W1, st⟩ := RoadKit.stJ X hx hZ eT A (j := j) (x := x) (AJ.inb q hj hl) (g := mkF m pc Ls (Value.long x :: .int j :: .ref a :: St)) rfl rfl hd
  exact Go.st st (kk _ _ X1 e1 W1 (AJ.wr ⟨cl, A, q, r⟩ W1))
theorem w_alenI (X : Stand p l e R s m args below meth c T locs cells slots) (hx : p.tables.exec = Jvm.exec) (hZ : Z.Warmed39 s.vm) {a : Addr} {ty : FieldType} {vs : List Int32} {n : Int32} (eT : T.heap = h) (F : AI Z h a ty vs) (hn : vs.length.toInt32 = n) (hd : decode c.code pc = .ok (.arraylength, 1)) (hp : pc + 1 = pc')
    (kk : Go p e below s cm sm Q T (mkF m pc' Ls (.int n :: St))) : Go p e below s cm sm Q T (mkF m pc Ls (.ref a :: St)) := by
  subst hp hn
  obtain ⟨cl, A, q, r⟩ := F
  have hs := AI.sz q
  exact Go.st (fun t k => X.arraylength hx (by rw [eT]; exact A.1) (State.isArrayOf_alike hZ.alike A.2.1) (g := mkF m pc Ls (.ref a :: St)) rfl rfl hd t (by rw [hs]; exact k)) kk
theorem w_alenJ (X : Stand p l e R s m args below meth c T locs cells slots) (hx : p.tables.exec = Jvm.exec) (hZ : Z.Warmed39 s.vm) {a : Addr} {vs : List Int64} {n : Int32} (eT : T.heap = h) (F : AJ Z h a vs) (hn : vs.length.toInt32 = n) (hd : decode c.code pc = .ok (.arraylength, 1)) (hp : pc + 1 = pc')
    (kk : Go p e below s cm sm Q T (mkF m pc' Ls (.int n :: St))) : Go p e below s cm sm Q T (mkF m pc Ls (.ref a :: St)) := by
  subst hp hn
  obtain ⟨cl, A, q, r⟩ := F
  have hs := AJ.sz q
  exact Go.st (fun t k => X.arraylength hx (by rw [eT]; exact A.1) (State.isArrayOf_alike hZ.alike A.2.1) (g := mkF m pc Ls (.ref a :: St)) rfl rfl hd t (by rw [hs]; exact k)) kk
theorem w_up {c' s' : Nat} (X : Stand p l e R s m args below meth c T locs cells slots) (h1 : cells ≤ c') (h2 : slots ≤ s') : Stand p l e R s m args below meth c T locs c' s' :=
  ⟨X.admits, X.cas, X.clock, X.frames, X.room, X.hears, X.method, X.code, X.here, X.tail, X.warmed, X.limits, X.bytes, X.same.mono h1 h2⟩
/-- newarray, with the class of what is made -/
theorem newC (X : Stand p l e R s m args below meth c T locs cells slots) (hx : p.tables.exec = Jvm.exec) (hZ : Z.Warmed39 s.vm) {aty : ArrayType} (w : (Jvm.Cond.arrayClass (newarray.typeOf aty)).before a0 Z = true) (eT : T.heap = h) {g : JFrame} (hg : g.method = m) (hd : decode c.code g.pc = .ok (.newarray aty, 2)) {n : Int32} {rest : List Value} (hs : g.stack = .int n :: rest)
    (hn : ¬ n < 0) {cap : Nat} (hcap : n.toNatClampNeg ≤ cap) (hb : cap * 8 ≤ 536870912) (hc : cells + 1 ≤ R.cells) (hl : slots + cap ≤ R.slots) :
    ∃ T' h' k, Stand p l e R s m args below meth c T' locs (cells + 1) (slots + cap) ∧ T'.heap = h' ∧ Ext h h' ∧ Arr Z h' h.size (newA k (newarray.typeOf aty) n) (newarray.typeOf aty) ∧ Z.vm.findClass ("[" ++ (newarray.typeOf aty).toString) = some k ∧
      ∀ target, Steps p.tables e below (T'.setTop { g with pc := g.pc + 2, stack := .ref h.size :: rest }) target → Steps p.tables e below (T.setTop g) target := by
  have h8 : componentBytes (newarray.typeOf aty) ≤ 8 := by cases aty <;> decide
  have hsz : n.toNatClampNeg * componentBytes (newarray.typeOf aty) ≤ 536870912 := Nat.le_trans (Nat.mul_le_mul hcap h8) hb
  obtain ⟨k, kA, comp, c1, c2, c3, X', st⟩ := X.newarrayPrim hx (mvA hZ w) hg hd hs hn hsz hc (by omega)
  subst eT
  have hk : s.isArrayOf (newA k (newarray.typeOf aty) n) (newarray.typeOf aty) := ⟨by simp [newA], kA, c2, comp, c3⟩
  refine ⟨_, _, k, w_up X' (Nat.le_refl _) (by omega), rfl, ⟨by show T.heap.size ≤ (T.heap.push _).size; simp, fun a q hq => ?_⟩, ⟨by show (T.heap.push _)[T.heap.size]? = _; simp [newA], State.isArrayOf_alike hZ.alike.symm hk, by simp [newA]⟩, by rw [← hZ.alike.findClass]; exact c1, st⟩
  show (T.heap.push _)[a]? = _
  rw [Array.getElem?_push, if_neg (Nat.ne_of_lt (Array.getElem?_eq_some_iff.mp hq).1)]
  exact hq
theorem w_newI (X : Stand p l e R s m args below meth c T locs cells slots) (hx : p.tables.exec = Jvm.exec) (hZ : Z.Warmed39 s.vm) {n : Int32} {cap : Nat} (eT : T.heap = h) (w : (Jvm.Cond.arrayClass .int).before a0 Z = true) (hn : ¬ n < 0) (hcap : n.toNatClampNeg ≤ cap) (hb : cap * 8 ≤ 536870912) (hc : cells + 1 ≤ R.cells) (hl : slots + cap ≤ R.slots) (hd : decode c.code pc = .ok (.newarray .int, 2)) (hp : pc + 2 = pc')
    (kk : ∀ (T' : State) (h' : Heap) (b : Addr), Stand p l e R s m args below meth c T' locs (cells + 1) (slots + cap) → T'.heap = h' → Ext h h' → b = h.size → AI Z h' b .int (List.replicate n.toNatClampNeg 0) → Go p e below s cm sm Q T' (mkF m pc' Ls (.ref b :: St))) : Go p e below s cm sm Q T (mkF m pc Ls (.int n :: St)) := by
  subst hp
  obtain ⟨T1, h1, k1, X1, e1, E1, A1, C1, st⟩ := newC X hx hZ (aty := .int) w eT (g := mkF m pc Ls (.int n :: St)) rfl hd rfl hn (cap := cap) hcap hb hc hl
  exact Go.st st (kk _ _ _ X1 e1 E1 rfl (AI.new A1 rfl C1))
theorem w_newB (X : Stand p l e R s m args below meth c T locs cells slots) (hx : p.tables.exec = Jvm.exec) (hZ : Z.Warmed39 s.vm) {n : Int32} {cap : Nat} (eT : T.heap = h) (w : (Jvm.Cond.arrayClass .byte).before a0 Z = true) (hn : ¬ n < 0) (hcap : n.toNatClampNeg ≤ cap) (hb : cap * 8 ≤ 536870912) (hc : cells + 1 ≤ R.cells) (hl : slots + cap ≤ R.slots) (hd : decode c.code pc = .ok (.newarray .byte, 2)) (hp : pc + 2 = pc')
    (kk : ∀ (T' : State) (h' : Heap) (b : Addr), Stand p l e R s m args below meth c T' locs (cells + 1) (slots + cap) → T'.heap = h' → Ext h h' → b = h.size → AI Z h' b .byte (List.replicate n.toNatClampNeg 0) → Go p e below s cm sm Q T' (mkF m pc' Ls (.ref b :: St))) : Go p e below s cm sm Q T (mkF m pc Ls (.int n :: St)) := by
  subst hp
  obtain ⟨T1, h1, k1, X1, e1, E1, A1, C1, st⟩ := newC X hx hZ (aty := .byte) w eT (g := mkF m pc Ls (.int n :: St)) rfl hd rfl hn (cap := cap) hcap hb hc hl
  exact Go.st st (kk _ _ _ X1 e1 E1 rfl (AI.new A1 rfl C1))
theorem w_newJ (X : Stand p l e R s m args below meth c T locs cells slots) (hx : p.tables.exec = Jvm.exec) (hZ : Z.Warmed39 s.vm) {n : Int32} {cap : Nat} (eT : T.heap = h) (w : (Jvm.Cond.arrayClass .long).before a0 Z = true) (hn : ¬ n < 0) (hcap : n.toNatClampNeg ≤ cap) (hb : cap * 8 ≤ 536870912) (hc : cells + 1 ≤ R.cells) (hl : slots + cap ≤ R.slots) (hd : decode c.code pc = .ok (.newarray .long, 2)) (hp : pc + 2 = pc')
    (kk : ∀ (T' : State) (h' : Heap) (b : Addr), Stand p l e R s m args below meth c T' locs (cells + 1) (slots + cap) → T'.heap = h' → Ext h h' → b = h.size → AJ Z h' b (List.replicate n.toNatClampNeg 0) → Go p e below s cm sm Q T' (mkF m pc' Ls (.ref b :: St))) : Go p e below s cm sm Q T (mkF m pc Ls (.int n :: St)) := by
  subst hp
  obtain ⟨T1, h1, k1, X1, e1, E1, A1, C1, st⟩ := newC X hx hZ (aty := .long) w eT (g := mkF m pc Ls (.int n :: St)) rfl hd rfl hn (cap := cap) hcap hb hc hl
  exact Go.st st (kk _ _ _ X1 e1 E1 rfl (AJ.new A1 C1))
theorem w_callP (X : Stand p l e R s m args below meth c T locs cells slots) (hx : p.tables.exec = Jvm.exec) (hZ : Z.Warmed39 s.vm) {own : String} {index : Nat} {y : MethodName} {bytes : ByteArray} {maxL : Nat} {ret : Option FieldType} {rm : Room} {W : Nat} {argsL rest : List Value} {Qc : Option Value → Heap → List Loc → Prop} {a : Addr} (hown : s.vm.findClass own = some m.cls) (eT : T.heap = h) (E : Exa Z h a y.cls) (C : Con l Z y bytes maxL ret rm (.ref a :: argsL).toArray h Qc) (w1 : (Jvm.Cond.methodLink own index y).before a0 Z = true) (w2 : (Jvm.Cond.instanceMethod y).before a0 Z = true) (ws : (Jvm.Cond.selects y.cls y y).before a0 Z = true) (wp : (Jvm.Cond.privateMethod y).before a0 Z = true) (w3 : (Jvm.Cond.initialized y.cls).before a0 Z = true) (w4 : (Jvm.Cond.code y bytes maxL ret).before a0 Z = true) (hy : y.cls ≠ "java/lang/invoke/MethodHandle" ∧ y.cls ≠ "java/lang/invoke/VarHandle")
    (hf : rm.frames + 1 ≤ R.frames) (hl : W + (maxL + 11) + rm.locals ≤ R.locals) (hc : cells + rm.cells ≤ R.cells) (hs : slots + rm.slots ≤ R.slots) (hsz : Ls.size = c.maxLocals) (hlen : ∀ sig, parseMethodDescriptor y.desc = some sig → argsL.length = sig.parameters.length) (hW : (rest.map fun v => v.category).sum ≤ W) (hst : St = argsL.reverse ++ .ref a :: rest) (hd : decode c.code pc = .ok (.invokevirtual index, 3)) (hp : pc + 3 = pc')
    (kk : ∀ (T' : State) (L : List Loc) (v : Option Value), Stand p l e R s m args below meth c T' (locs ++ L) (cells + rm.cells) (slots + rm.slots) → Qc v T'.heap L → Go p e below s cm sm Q T' (mkF m pc' Ls (v.toList ++ rest))) : Go p e below s cm sm Q T (mkF m pc Ls St) := by
  subst hp hst
  obtain ⟨cq, q1, q2⟩ := E.cell
  obtain ⟨v, _, ⟨T1, L1, k1, n1⟩, -, X1, ⟨Lc, hQ, l1, y1, z1⟩, st⟩ := X.privateBack hx (y := y) hown (mvT hZ w1) (mvT hZ w2) (mvT hZ ws) (Cond.privateMethod_at (mvP hZ wp (args := #[]))) (mvT hZ w4) hy (C.back (W := W) hZ w4 w3 hf hl) (g := mkF m pc Ls (argsL.reverse ++ .ref a :: rest)) rfl hsz (Steps.refl _) (a := a) (by rw [eT]; exact q1) q2 (argsL := argsL) (rest := rest) hlen rfl (by show 2 * 0 + _ ≤ _; rw [Nat.mul_zero, Nat.zero_add]; exact hW) hd (fun _ _ => ⟨rfl, eT, hc, hs⟩)
  dsimp only [Pt.U, Pt.locs, Pt.cells, Pt.slots] at X1 l1 y1 z1 st hQ
  subst l1 y1 z1
  exact Go.st (fun t q => st.trans q) (kk _ _ _ X1 hQ)
theorem w_ifnullNo (X : Stand p l e R s m args below meth c T locs cells slots) (hx : p.tables.exec = Jvm.exec) {o : Int} {b : Addr} (hd : decode c.code pc = .ok (.ifnull o, 3)) (hp : pc + 3 = pc') (kk : Go p e below s cm sm Q T (mkF m pc' Ls St)) : Go p e below s cm sm Q T (mkF m pc Ls (.ref b :: St)) := by
  subst hp
  exact Go.st (fun t q => XS.ifnullNo (g := mkF m pc Ls (.ref b :: St)) X.here hx rfl hd rfl q) kk
theorem own_len {n k : Nat} (h : n < 2147483648) (hk : k < 2147483648) (hc : ¬ n.toInt32 < k.toInt32) : k ≤ n := by
  rw [Int32.lt_iff_toInt_lt, len_toInt h, len_toInt hk] at hc
  omega
theorem own_len' {n k : Nat} (h : n < 2147483648) (hk : k < 2147483648) (hc : n.toInt32 < k.toInt32) : n < k := by
  rw [Int32.lt_iff_toInt_lt, len_toInt h, len_toInt hk] at hc
  omega
theorem own_getD {α : Type} {vs : List α} {j : Nat} {d : α} (h : j < vs.length) : vs[j]? = some (vs.getD j d) := by simp [h]
theorem own_nar0 : nar .boolean 0 = 0 := by decide
theorem own_nar1 : nar .boolean 1 = 1 := by decide
theorem own_selp {y : MethodName} {s : State} {args : Array Value} {n : Nat} (hins : (Jvm.Cond.instantiable y.cls n).before args s = true) (hpriv : (Jvm.Cond.privateMethod y).before args s = true) (hinst : (Jvm.Cond.instanceMethod y).before args s = true) (hy : y.cls ≠ "java/lang/invoke/MethodHandle" ∧ y.cls ≠ "java/lang/invoke/VarHandle") :
    (Jvm.Cond.selects y.cls y y).before args s = true := by
  obtain ⟨c, k, hc, hk, -, hniab, -, -⟩ := Cond.instantiable_spec hins
  have hni : k.isInterface = false := (Bool.or_eq_false_iff.mp hniab).1
  obtain ⟨mk, methM, hnamed, hmethM, -, -⟩ := Cond.instanceMethod_spec hinst
  have hfound : s.methodFound? y.cls y.name y.desc = some mk := State.methodFound?_of_named hnamed hy
  have hcls : mk.cls = c := Option.some.inj ((findClass_of_methodNamed hnamed).symm.trans hc)
  have hsel : selectMethod {} s.vm c mk = .method mk := selectMethod_private hmethM (Cond.privateMethod_at hpriv mk methM hnamed hmethM)
  simp only [Jvm.Cond.before, Jvm.Cond.holds, Jvm.Cond.value, hc, hfound, hnamed, hsel, hcls, hk]
  simp; exact hni
end OwnKit
theorem pd_0 : parseMethodDescriptor "(II)I" = some ⟨[.int, .int], some .int⟩ := by decide +kernel
theorem pd_1 : parseMethodDescriptor "(I)V" = some ⟨[.int], none⟩ := by decide +kernel
theorem pd_2 : parseMethodDescriptor "(IJ)V" = some ⟨[.int, .long], none⟩ := by decide +kernel
theorem pd_3 : parseMethodDescriptor "(I)J" = some ⟨[.int], some .long⟩ := by decide +kernel
theorem pd_4 : parseMethodDescriptor "()[B" = some ⟨[], some (.array .byte)⟩ := by decide +kernel
theorem pd_5 : parseMethodDescriptor "(J)V" = some ⟨[.long], none⟩ := by decide +kernel
theorem pd_6 : parseMethodDescriptor "(J)I" = some ⟨[.long], some .int⟩ := by decide +kernel
theorem pd_7 : parseMethodDescriptor "([B)V" = some ⟨[(.array .byte)], none⟩ := by decide +kernel
theorem pd_8 : parseMethodDescriptor "()J" = some ⟨[], some .long⟩ := by decide +kernel
theorem pd_9 : parseMethodDescriptor "()I" = some ⟨[], some .int⟩ := by decide +kernel
theorem own_m (x m : Int32) {k : Nat} (hk : k < 32) (hm : m.toBitVec.toNat = 2 ^ k - 1) : 0 ≤ (x &&& m).toInt ∧ (x &&& m).toInt < 2 ^ k := by
  rw [Jvm.Kit.i32_mask x m hk hm]
  exact ⟨Int.emod_nonneg _ (by have : (0 : Int) < 2 ^ k := Int.pow_pos (by decide); omega), Int.emod_lt_of_pos _ (Int.pow_pos (by decide))⟩
theorem own_one : (1 : Int32).toInt = 1 := by decide
theorem own_zero : (0 : Int32).toInt = 0 := by decide
theorem own_toInt {x y : Int32} (h : x.toInt = y.toInt) : x = y := Int32.toInt_inj.mp h
theorem own_and1 (x : Int32) : x &&& 1 = 0 ∨ x &&& 1 = 1 := and_one x
theorem own_and3 (x : Int32) : x &&& 3 = 0 ∨ x &&& 3 = 1 ∨ x &&& 3 = 2 ∨ x &&& 3 = 3 := by
  obtain ⟨h1, h2⟩ := own_m x 3 (k := 2) (by decide) (by decide)
  have e1 : (1 : Int32).toInt = 1 := by decide
  have e2 : (2 : Int32).toInt = 2 := by decide
  have e3 : (3 : Int32).toInt = 3 := by decide
  have e0 : (0 : Int32).toInt = 0 := by decide
  have : (x &&& 3).toInt = 0 ∨ (x &&& 3).toInt = 1 ∨ (x &&& 3).toInt = 2 ∨ (x &&& 3).toInt = 3 := by omega
  rcases this with h | h | h | h
  · exact Or.inl (own_toInt (h.trans e0.symm))
  · exact Or.inr (Or.inl (own_toInt (h.trans e1.symm)))
  · exact Or.inr (Or.inr (Or.inl (own_toInt (h.trans e2.symm))))
  · exact Or.inr (Or.inr (Or.inr (own_toInt (h.trans e3.symm))))
theorem own_b01 {c : Prop} [Decidable c] {v : Int32} (h : v = if c then 0 else 1) : v = 0 ∨ v = 1 := by subst h; split <;> simp
theorem own_b10 {c : Prop} [Decidable c] {v : Int32} (h : v = if c then 1 else 0) : v = 0 ∨ v = 1 := by subst h; split <;> simp
theorem own_i {n : Nat} (h : n < 2147483648) : (n.toInt32).toInt = n := len_toInt h
theorem own_nat {n : Nat} (h : n < 2147483648) : n.toInt32.toNatClampNeg = n := by
  show n.toInt32.toInt.toNat = n
  rw [own_i h]; rfl
theorem own_nneg {n : Nat} (h : n < 2147483648) : ¬ n.toInt32 < 0 := by
  rw [Int32.lt_iff_toInt_lt, own_i h, own_zero]; omega
theorem own_ilt {a b : Nat} (ha : a < 2147483648) (hb : b < 2147483648) : (a.toInt32 < b.toInt32) ↔ a < b := by
  rw [Int32.lt_iff_toInt_lt, own_i ha, own_i hb]; omega
theorem own_ieq {a b : Nat} (ha : a < 2147483648) (hb : b < 2147483648) : (a.toInt32 = b.toInt32) ↔ a = b := by
  rw [← Int32.toInt_inj, own_i ha, own_i hb]; omega
theorem own_iinc {n : Nat} (h : n + 1 < 2147483648) : n.toInt32 + 1 = (n + 1).toInt32 := by
  apply own_toInt
  rw [Jvm.Kit.i32_add (by rw [own_i (by omega), own_one]; omega) (by rw [own_i (by omega), own_one]; omega), own_i (by omega), own_i h, own_one]
  omega
theorem own_idec {n : Nat} (h : n + 1 < 2147483648) : (n + 1).toInt32 - 1 = n.toInt32 := by
  apply own_toInt
  rw [Jvm.Kit.i32_sub (by rw [own_i h, own_one]; omega) (by rw [own_i h, own_one]; omega), own_i h, own_i (by omega), own_one]
  omega
theorem own_dist (y : Int32) : (y &&& 0x3f).toInt64.toUInt64.toNat = (y.toInt % 64).toNat := by
  have h1 : (y &&& 63).toInt = y.toInt % 2 ^ 6 := Jvm.Kit.i32_mask y 63 (k := 6) (by decide) (by decide)
  have h2 : (y &&& 63).toInt64.toInt = (y &&& 63).toInt := Int32.toInt_toInt64 _
  have h3 : ((y &&& 63).toInt64.toUInt64.toNat : Int) = (y &&& 63).toInt64.toInt := by
    have h4 : (y &&& 63).toInt64.toInt = (y &&& 63).toInt64.toBitVec.toInt := rfl
    have h5 : (y &&& 63).toInt64.toUInt64.toNat = (y &&& 63).toInt64.toBitVec.toNat := rfl
    have h6 : 0 ≤ (y &&& 63).toInt64.toBitVec.toInt := by rw [← h4, h2, h1]; omega
    rw [h4, h5, BitVec.toInt_eq_toNat_cond] at *
    have := (y &&& 63).toInt64.toBitVec.isLt
    split at h6 <;> split <;> omega
  rw [show (0x3f : Int32) = 63 from rfl]
  omega
theorem own_lushr_bv (x : Int64) (y : Int32) : (jlushr x y).toBitVec = x.toBitVec >>> (y.toInt % 64).toNat := by
  show (x.toUInt64 >>> (y &&& 0x3f).toInt64.toUInt64).toBitVec = _
  rw [UInt64.toBitVec_shiftRight]
  have := own_dist y
  rw [BitVec.ushiftRight_eq']
  have e : ((y &&& 0x3f).toInt64.toUInt64.toBitVec % 64).toNat = (y.toInt % 64).toNat := by
    rw [BitVec.toNat_umod]
    show (y &&& 0x3f).toInt64.toUInt64.toNat % 64 = _
    rw [this]; omega
  rw [e]
  rfl
theorem own_lushr_nat (x : Int64) (y : Int32) : (jlushr x y).toBitVec.toNat = x.toBitVec.toNat / 2 ^ (y.toInt % 64).toNat := by
  rw [own_lushr_bv, BitVec.toNat_ushiftRight, Nat.shiftRight_eq_div_pow]
theorem own_bit (m : Int64) (p : Int32) (h0 : 0 ≤ p.toInt) (h : p.toInt < 64) : ((jlushr m p &&& 1) = 0) ↔ m.toBitVec.getLsbD p.toInt.toNat = false := by
  rw [← Int64.toBitVec_inj, Int64.toBitVec_and, own_lushr_bv]
  have e : (p.toInt % 64).toNat = p.toInt.toNat := by omega
  rw [e]
  have e1 : (1 : Int64).toBitVec = 1#64 := rfl
  have e0 : (0 : Int64).toBitVec = 0#64 := rfl
  rw [e1, e0, ← BitVec.toNat_inj, BitVec.toNat_and, BitVec.toNat_ushiftRight]
  rw [show (1#64).toNat = 1 from rfl, show (0#64).toNat = 0 from rfl, Nat.and_one_is_mod]
  rw [BitVec.getLsbD, Nat.testBit]
  rw [Nat.and_comm, Nat.and_one_is_mod]
  simp
theorem own_smod (d : Int32) : ((d &&& 0x3f).toInt64.toBitVec.smod 64).toNat = (d.toInt % 64).toNat := by
  have h1 := own_dist d
  have h2 : (d &&& 0x3f).toInt64.toBitVec.toNat = (d.toInt % 64).toNat := h1
  have h3 : (d &&& 0x3f).toInt64.toBitVec = BitVec.ofNat 64 (d.toInt % 64).toNat := by
    apply BitVec.eq_of_toNat_eq
    rw [h2, BitVec.toNat_ofNat]; omega
  rw [h3]
  have h4 : (d.toInt % 64).toNat < 64 := by omega
  generalize (d.toInt % 64).toNat = n at *
  have : ∀ n, n < 64 → ((BitVec.ofNat 64 n).smod 64).toNat = n := by decide
  exact this n h4
theorem own_shl_bv (x : Int64) (d : Int32) : (x <<< (d &&& 0x3f).toInt64).toBitVec = x.toBitVec <<< (d.toInt % 64).toNat := by
  rw [Int64.toBitVec_shiftLeft, BitVec.shiftLeft_eq', own_smod]
theorem own_bit1 (d p : Int32) (h0 : 0 ≤ p.toInt) (h : p.toInt < 64) : ((1 : Int64) <<< (d &&& 0x3f).toInt64).toBitVec.getLsbD p.toInt.toNat = decide ((d &&& 63) = p) := by
  rw [own_shl_bv, show (1 : Int64).toBitVec = 1#64 from rfl, BitVec.getLsbD_shiftLeft]
  have h1 : (d &&& 63).toInt = d.toInt % 2 ^ 6 := Jvm.Kit.i32_mask d 63 (k := 6) (by decide) (by decide)
  rw [BitVec.getLsbD_one, Bool.eq_iff_iff]
  simp only [Bool.and_eq_true, Bool.not_eq_true', decide_eq_true_eq, decide_eq_false_iff_not]
  rw [← Int32.toInt_inj, h1]
  omega
theorem own_or_bit (a b : Int64) (n : Nat) : (a ||| b).toBitVec.getLsbD n = (a.toBitVec.getLsbD n || b.toBitVec.getLsbD n) := by
  rw [Int64.toBitVec_or, BitVec.getLsbD_or]
theorem own_field (x : Int64) : (x &&& 63).toInt32 = x.toInt32 &&& 63 := by
  rw [Int64.toInt32_and]; rfl
theorem own_u0 (x : Int64) : jlushr x 0 = x := by
  apply Int64.toBitVec_inj.mp
  rw [own_lushr_bv]; simp
theorem own_an {P : Jvm.Cond → Prop} : ∀ d ∈ ([] : List Jvm.Cond), P d := fun _ q => nomatch q
theorem own_ac {P : Jvm.Cond → Prop} {q : Jvm.Cond} {L : List Jvm.Cond} (h : P q) (t : ∀ d ∈ L, P d) : ∀ d ∈ q :: L, P d := fun d hd => (List.mem_cons.mp hd).elim (fun u => u ▸ h) (t d)
theorem own_tabOf {y : MethodName} {bytes : ByteArray} {maxL : Nat} {ret : Option FieldType} {site : List Jvm.Cond} {a : Array Value} {u : State} (h1 : (Jvm.Cond.code y bytes maxL ret).before a u = true) (h2 : (Jvm.Cond.initialized y.cls).before a u = true) (h3 : ∀ d ∈ site, d.before a u = true) : (XT.tabOf y bytes maxL ret site).before a u = true :=
  (conj_holds (args := a) (first := u) (o := none) (s := u) (idx := []) _ _).mpr ⟨h1, own_ac h2 h3⟩
/-- what a copy holds: n places from lo on, the rest 0 -/
def own_cpI (vs : List Int32) (lo n : Nat) : List Int32 := (List.range n).map fun j => vs.getD (lo + j) 0
def own_cpJ (vs : List Int64) (lo n : Nat) : List Int64 := (List.range n).map fun j => vs.getD (lo + j) 0
theorem own_cpI_len (vs : List Int32) (lo n : Nat) : (own_cpI vs lo n).length = n := by simp [own_cpI]
theorem own_cpJ_len (vs : List Int64) (lo n : Nat) : (own_cpJ vs lo n).length = n := by simp [own_cpJ]
theorem own_typed {c : Cell} {vs : List Int32} {ty : FieldType} (q : c.slots.toList = vs.map Value.int) (h : ∀ x ∈ vs, fits ty (.int x) = true) : XT.Typed ty c := fun i v hv => by
  rw [← Array.getElem?_toList, q, List.getElem?_map] at hv
  cases hx : vs[i]? with
  | none => rw [hx] at hv; cases hv
  | some x => rw [hx] at hv; cases hv; exact h x (List.mem_of_getElem? hx)
theorem own_slotsD {c : Cell} {vs : List Int32} (q : c.slots.toList = vs.map Value.int) (j : Nat) : c.slots.getD j (.int 0) = .int (vs.getD j 0) := by
  rw [Array.getD_eq_getD_getElem?, ← Array.getElem?_toList, q, List.getElem?_map, List.getD_eq_getElem?_getD]
  cases vs[j]? <;> rfl
theorem own_slotsDJ {c : Cell} {vs : List Int64} (q : c.slots.toList = vs.map Value.long) (j : Nat) : c.slots.getD j (.long 0) = .long (vs.getD j 0) := by
  rw [Array.getD_eq_getD_getElem?, ← Array.getElem?_toList, q, List.getElem?_map, List.getD_eq_getElem?_getD]
  cases vs[j]? <;> rfl
theorem own_toL {α : Type} {c : Array α} {n : Nat} {f : Nat → α} (hs : c.size = n) (h : ∀ j, j < n → c[j]? = some (f j)) : c.toList = (List.range n).map f := by
  apply List.ext_getElem?
  intro j
  rw [Array.getElem?_toList, List.getElem?_map]
  by_cases q : j < n
  · rw [h j q, List.getElem?_range q]; rfl
  · rw [Array.getElem?_eq_none (by omega), List.getElem?_eq_none (by simp; omega)]; rfl
theorem own_typedJ {c : Cell} {vs : List Int64} (q : c.slots.toList = vs.map Value.long) : XT.Typed .long c := fun i v hv => by
  rw [← Array.getElem?_toList, q, List.getElem?_map] at hv
  cases hx : vs[i]? with
  | none => rw [hx] at hv; cases hv
  | some x => rw [hx] at hv; cases hv; rfl
theorem own_pdCopyOfB : parseMethodDescriptor "([BI)[B" = some ⟨[.array .byte, .int], some (.array .byte)⟩ := by decide +kernel
section CopyCopyOfB
variable {p : Program} {l : Launch} {e : Env} {R : Room} {s : State} {m : MethodId} {args : Array Value} {below : List Frame} {meth : Method} {c : Code} {T T' : State} {locs : List Loc} {cells slots : Nat} {Z : State} {a0 : Array Value} {h h' : Heap} {cm sm : Nat} {Q : Option Value → Heap → List Loc → Prop} {pc pc' : Nat} {Ls Ls' : Array Slot} {St : List Value}
theorem w_CopyOfB (X : Stand p l e R s m args below meth c T locs cells slots) (hx : p.tables.exec = Jvm.exec) (hZ : Z.Warmed39 s.vm) {own : String} {index W : Nat} {rest : List Value} {a : Addr} {vs : List Int32} {hi : Nat} (hown : s.vm.findClass own = some m.cls) (eT : T.heap = h) (F : AI Z h a .byte vs) (hfit : ∀ x ∈ vs, fits .byte (.int x) = true) (hhi : hi < 1000000) (htab : JA.CopyOfB.tab.before args s = true) (w1 : (Jvm.Cond.methodLink own index JA.CopyOfB.yN).before a0 Z = true) (w2 : (Jvm.Cond.static JA.CopyOfB.yN).before a0 Z = true) (w3 : (Jvm.Cond.initialized JA.CopyOfB.yN.cls).before a0 Z = true)
    (hf : 2 ≤ R.frames) (hl : W + 54 ≤ R.locals) (hc : cells + 1 ≤ R.cells) (hs : slots + hi ≤ R.slots) (hsz : Ls.size = c.maxLocals) (hW : (rest.map fun v => v.category).sum ≤ W) (hd : decode c.code pc = .ok (.invokestatic index, 3)) (hp : pc + 3 = pc')
    (kk : ∀ (T' : State) (h' : Heap) (b : Addr), Stand p l e R s m args below meth c T' locs (cells + 1) (slots + hi) → T'.heap = h' → Ext h h' → b = h.size → AI Z h' b .byte (own_cpI vs 0 hi) → Go p e below s cm sm Q T' (mkF m pc' Ls (.ref b :: rest))) : Go p e below s cm sm Q T (mkF m pc Ls ([.ref a, .int (Int32.ofNat hi)].reverse ++ rest)) := by
  subst hp
  obtain ⟨cl, A, q, r, k⟩ := F
  obtain ⟨v, vm1, ⟨T1, L1, k1, n1⟩, hW1, X1, ⟨⟨hv, B, hB, -, hBc, hBs, hBv, hK⟩, l1, y1, z1⟩, st⟩ := Jvm.LawKit.callS X hx (y := JA.CopyOfB.yN) hown (mvT hZ w1) (mvT hZ w2) (mvT hZ w3) (HMW.conj_parts htab).1 (by decide) (JA.CopyOfB.pays (l := l) (R := R) (p := p) (e := e) (below := below) (s := s) (sargs := args) (len := 3) (W := W) a cl hi htab hf hl) (g := mkF m pc Ls ([.ref a, .int (Int32.ofNat hi)].reverse ++ rest)) rfl hsz (argsL := [.ref a, .int (Int32.ofNat hi)]) (rest := rest) (lenOf own_pdCopyOfB rfl) rfl (by show 2 * 0 + _ ≤ _; rw [Nat.mul_zero, Nat.zero_add]; exact hW) hd (fun vm₁ hV => by
    have hZ1 : Z.Warmed39 vm₁ := State.Warmed39.trans hZ hV.wide
    exact ⟨hc, hs, ⟨rfl, ⟨by rw [← eT] at A; exact A.1, State.isArrayOf_alike hZ1.alike A.2.1, A.2.2, by rw [AI.sz q]; exact r⟩, by show vm₁.findClass "[B" = _; rw [hZ1.alike.findClass]; exact k, own_typed q hfit, by omega⟩⟩)
  dsimp only [Pt.U, Pt.locs, Pt.cells, Pt.slots] at X1 l1 y1 z1 st hv hB hBc hBs hBv hK
  subst l1 y1 z1 hv
  rw [List.append_nil] at X1
  have hZ1 : Z.Warmed39 T1.vm := State.Warmed39.trans hZ X1.warmed.wide
  have e1 : (T.setVm vm1).heap = h := eT
  rw [e1] at hB st
  refine Go.st st (kk T1 T1.heap h.size X1 rfl ⟨?_, fun y cy hy => hK y cy (by rw [e1]; exact hy)⟩ rfl ?_)
  · have := (Array.getElem?_eq_some_iff.mp hB.1).1; omega
  · refine ⟨B, ⟨hB.1, State.isArrayOf_alike hZ1.alike.symm hB.2.1, hB.2.2.1⟩, ?_, ?_, ?_⟩
    · rw [own_toL hBs hBv, own_cpI, List.map_map]
      apply List.map_congr_left
      intro j _
      show cl.slots.getD _ (Value.int 0) = _
      rw [own_slotsD q]
      show _ = Value.int (vs.getD (0 + j) 0)
      rw [Nat.zero_add]
    · rw [own_cpI_len]; omega
    · have := hBc; rw [hZ1.alike.findClass] at this; exact this
end CopyCopyOfB
theorem own_tabCopyOfB {Z : State} {s : State} {a0 args : Array Value} (hZ : Z.Warmed39 s.vm) (hw : ∀ d ∈ tables_1, d.before a0 Z = true) : JA.CopyOfB.tab.before args s = true :=
  own_tabOf (mvT hZ (hw _ (List.mem_of_getElem? (i := 26) rfl))) (mvT hZ (hw _ (List.mem_of_getElem? (i := 25) rfl))) ((own_ac (mvT hZ (hw _ (List.mem_of_getElem? (i := 105) rfl))) (own_ac (mvT hZ (hw _ (List.mem_of_getElem? (i := 106) rfl))) (own_ac (mvA hZ (hw _ (List.mem_of_getElem? (i := 13) rfl))) (own_ac (own_tabOf (mvT hZ (hw _ (List.mem_of_getElem? (i := 29) rfl))) (mvT hZ (hw _ (List.mem_of_getElem? (i := 11) rfl))) own_an) (own_ac (mvT hZ (hw _ (List.mem_of_getElem? (i := 98) rfl))) (own_ac (mvT hZ (hw _ (List.mem_of_getElem? (i := 99) rfl))) (own_ac (mvT hZ (hw _ (List.mem_of_getElem? (i := 103) rfl))) (own_ac (mvT hZ (hw _ (List.mem_of_getElem? (i := 101) rfl))) (own_ac (mvT hZ (hw _ (List.mem_of_getElem? (i := 102) rfl))) (own_ac (mvT hZ (hw _ (List.mem_of_getElem? (i := 104) rfl))) (own_ac (mvT hZ (hw _ (List.mem_of_getElem? (i := 27) rfl))) (own_ac (mvT hZ (hw _ (List.mem_of_getElem? (i := 28) rfl))) (own_ac (mvT hZ (hw _ (List.mem_of_getElem? (i := 30) rfl))) (own_ac (mvT hZ (hw _ (List.mem_of_getElem? (i := 33) rfl))) (own_ac (mvT hZ (hw _ (List.mem_of_getElem? (i := 31) rfl))) (own_ac (mvT hZ (hw _ (List.mem_of_getElem? (i := 32) rfl))) own_an)))))))))))))))))
def own_sh (j : Nat) : Int32 := Int32.ofInt (8 * (j : Int) - 8)
/-- the lowest j bytes, the highest first -/
def own_by (v : Int64) : Nat → List Int32
  | 0 => []
  | j + 1 => (jlushr v (own_sh (j + 1))).toInt32.toInt8.toInt32 :: own_by v j
def own_l (x1 : Int32) (i : Int32) (v : Int64) (k : Nat) : List Int32 := ((x1 <<< ((5 : Int32) &&& 31)) ||| i).toInt8.toInt32 :: own_by v k
/-- a head -/
def own_hd (x1 : Int32) (v : Int64) : List Int32 :=
  if v < (0 : Int64) then own_l x1 (27 : Int32) v 8
  else if v < (24 : Int64) then [(((x1 <<< ((5 : Int32) &&& 31))).toInt64 ||| v).toInt32.toInt8.toInt32]
  else if (255 : Int64) < v then (if (65535 : Int64) < v then (if (4294967295 : Int64) < v then own_l x1 (27 : Int32) v 8 else own_l x1 (26 : Int32) v 4) else own_l x1 (25 : Int32) v 2)
  else own_l x1 (24 : Int32) v 1
theorem own_by_len (v : Int64) : ∀ j, (own_by v j).length = j
  | 0 => rfl
  | j + 1 => by rw [own_by, List.length_cons, own_by_len v j]
theorem own_l_len (x1 i : Int32) (v : Int64) (k : Nat) : (own_l x1 i v k).length = k + 1 := by rw [own_l, List.length_cons, own_by_len]
theorem own_hd_len (x1 : Int32) (v : Int64) : 1 ≤ (own_hd x1 v).length ∧ (own_hd x1 v).length ≤ 9 := by
  unfold own_hd
  repeat' split
  all_goals (first | (rw [own_l_len]; omega) | (simp; done))
theorem own_shn : ∀ j, j < 9 → (own_sh j < 0 ↔ j = 0) := by decide
theorem own_shd : ∀ j, j < 9 → own_sh (j + 1) + (-8 : Int32) = own_sh j := by decide
theorem own_nb (x : Int32) : nar .byte (x.toInt8.toInt32) = x.toInt8.toInt32 := by
  show (x.toInt8.toInt32).toInt8.toInt32 = _
  simp
theorem own_fitb (x : Int32) : fits .byte (.int (x.toInt8.toInt32)) = true := by rw [← own_nb x]; exact fits_nar_byte _
theorem own_take1 {bs : List Int32} {n : Nat} {v : Int32} (h : n < bs.length) : (bs.set n v).take (n + 1) = bs.take n ++ [v] := by
  rw [List.take_add_one, List.take_set_of_le (Nat.le_refl n), List.getElem?_set_self h]; rfl
theorem own_fitset {bs : List Int32} {n : Nat} {v : Int32} (h : (∀ x ∈ bs, fits .byte (.int x) = true)) (hv : fits .byte (.int v) = true) : (∀ x ∈ bs.set n v, fits .byte (.int x) = true) := by
  intro x hx
  rcases List.mem_or_eq_of_mem_set hx with q | q
  · exact h x q
  · rw [q]; exact hv
theorem own_cp_take {bs : List Int32} {n : Nat} (h : n ≤ bs.length) : own_cpI bs 0 n = bs.take n := by
  apply List.ext_getElem?
  intro j
  rw [own_cpI, List.getElem?_map, List.getElem?_take]
  by_cases q : j < n
  · rw [List.getElem?_range q, if_pos q, List.getElem?_eq_getElem (by omega)]
    simp [List.getD_eq_getElem?_getD, List.getElem?_eq_getElem (show j < bs.length by omega)]
  · rw [if_neg q, List.getElem?_eq_none (by simp; omega)]; rfl
theorem own_cp_grow {bs : List Int32} {n k : Nat} (h : n ≤ bs.length) (hk : n ≤ k) : (own_cpI bs 0 k).take n = bs.take n := by
  rw [← own_cp_take h, own_cpI, own_cpI, ← List.map_take, List.take_range, Nat.min_eq_left hk]
theorem own_cp_fit {bs : List Int32} {k : Nat} (h : (∀ x ∈ bs, fits .byte (.int x) = true)) : (∀ x ∈ own_cpI bs 0 k, fits .byte (.int x) = true) := by
  intro x hx
  obtain ⟨j, -, rfl⟩ := List.mem_map.mp hx
  rw [List.getD_eq_getElem?_getD]
  cases q : bs[0 + j]? with
  | none => decide
  | some y => exact h y (List.mem_of_getElem? q)
theorem d3_0 : decode jdk_29_method_65_code 0 = .ok (.iload_n 0, 1) := by decide +kernel
theorem d3_1 : decode jdk_29_method_65_code 1 = .ok (.iload_n 1, 1) := by decide +kernel
theorem d3_2 : decode jdk_29_method_65_code 2 = .ok (.if_icmp .lt 7, 3) := by decide +kernel
theorem d3_5 : decode jdk_29_method_65_code 5 = .ok (.iload_n 0, 1) := by decide +kernel
theorem d3_6 : decode jdk_29_method_65_code 6 = .ok (.goto 4, 3) := by decide +kernel
theorem d3_9 : decode jdk_29_method_65_code 9 = .ok (.iload_n 1, 1) := by decide +kernel
theorem d3_10 : decode jdk_29_method_65_code 10 = .ok (.ireturn, 1) := by decide +kernel
def K3_0 (x0 : Int32) (x1 : Int32) : Int32 :=
  (if x0 < x1 then x1
  else x0)
set_option maxRecDepth 65536 in
set_option maxHeartbeats 4000000 in
theorem bk3_0 {p : Program} {l : Launch} {e : Env} {s : State} {m : MethodId} {args : Array Value} {below : List Frame} {meth : Method} {c : Code} {T : State} {locs : List Loc} {Z : State} {a0 : Array Value} {h0 : Heap} {n0 : Nat} (X : Stand p l e ({ frames := 0, cells := 0, slots := 0, locals := 0 } : Room) s m args below meth c T locs 0 0) (hx : p.tables.exec = Jvm.exec) (hZ : Z.Warmed39 s.vm) (hw : ∀ d ∈ tables_1, d.before a0 Z = true) (hby : c.code = jdk_29_method_65_code) (hml : c.maxLocals = 2) (hown : s.vm.findClass "java/lang/Math" = some m.cls) (hret : meth.sig.returnType = (some .int)) (hlk : meth.locks = false) (e0 : T.heap = h0) (N0 : Fr n0 locs) (x0 : Int32) (x1 : Int32) :
    Go p e below s 0 0 (QP (some (.int (K3_0 x0 x1))) h0 n0) T (mkF m 0 #[.val (.int x0), .val (.int x1)] []) := by
  rw [K3_0]
  refine w_iloadN X hx (hb hby d3_0) (pc' := 1) rfl rfl ?_
  refine w_iloadN X hx (hb hby d3_1) (pc' := 2) rfl rfl ?_
  refine w_icmp_lt X hx (hb hby d3_2) (pf := 5) (pt := 9) rfl (by decide) (by decide) (fun hc2 => ?_) (fun hc2 => ?_)
  · rw [if_pos hc2]
    refine w_iloadN X hx (hb hby d3_9) (pc' := 10) rfl rfl ?_
    exact w_retI X hx hret hlk (hb hby d3_10) (by decide) (by decide) ⟨rfl, N0, e0⟩
  · rw [if_neg hc2]
    refine w_iloadN X hx (hb hby d3_5) (pc' := 6) rfl rfl ?_
    refine w_goto X hx (hb hby d3_6) (pc' := 10) (by decide) (by decide) ?_
    exact w_retI X hx hret hlk (hb hby d3_10) (by decide) (by decide) ⟨rfl, N0, e0⟩
theorem ef_3 (m : MethodId) (x0 : Int32) (x1 : Int32) : entryFrame m #[(.int x0), (.int x1)] 2 = mkF m 0 #[.val (.int x0), .val (.int x1)] [] := by first | (simp [entryFrame, mkF, argsToLocals, Value.category]; done) | rfl
theorem rm3 (l : Launch) (Z : State) (a0 : Array Value) (hw : ∀ d ∈ tables_1, d.before a0 Z = true) (x0 : Int32) (x1 : Int32) (h0 : Heap) (n0 : Nat) :
    Con l Z (⟨"java/lang/Math", "max", "(II)I"⟩ : MethodName) jdk_29_method_65_code 2 (some .int) ({ frames := 0, cells := 0, slots := 0, locals := 0 } : Room) #[(.int x0), (.int x1)] h0 (QP (some (.int (K3_0 x0 x1))) h0 n0) := by
  refine Con.of (Jvm.Free.JP.mathPlain rfl (by decide +kernel)) ?_
  intro p e s m below meth c T X hx hZ hby hml hown hnm hret hlk e0
  rw [ef_3]
  exact bk3_0 X hx hZ hw hby hml hown hret hlk e0 (Fr.nil n0) x0 x1
theorem own_mx {a n : Nat} {x : Int32} (ha : 16 ≤ a ∧ a ≤ 31) (hn : n ≤ 9) (hx : 0 ≤ x.toInt ∧ x.toInt ≤ 9) : K3_0 (a.toInt32 * (2 : Int32)) (n.toInt32 + x) = Int32.ofNat (2 * a) := by
  have e2 : (2 : Int32).toInt = 2 := by decide
  have h1 : (a.toInt32 * (2 : Int32)).toInt = a * 2 := by rw [Jvm.Kit.i32_mul (by rw [own_i (by omega), e2]; omega) (by rw [own_i (by omega), e2]; omega), own_i (by omega), e2]
  have h2 : (n.toInt32 + x).toInt = n + x.toInt := by rw [Jvm.Kit.i32_add (by rw [own_i (by omega)]; omega) (by rw [own_i (by omega)]; omega), own_i (by omega)]
  have h3 : (Int32.ofNat (2 * a)).toInt = ((2 * a : Nat) : Int) := own_i (by omega)
  rw [K3_0]
  rw [if_neg (by rw [Int32.lt_iff_toInt_lt, h1, h2]; omega)]
  apply own_toInt
  rw [h1, h3]; omega
theorem own_mc {x : Int32} (hx : 0 ≤ x.toInt ∧ x.toInt ≤ 31) : 16 ≤ (K3_0 x (16 : Int32)).toInt ∧ (K3_0 x (16 : Int32)).toInt ≤ 31 := by
  have e : (16 : Int32).toInt = 16 := by decide
  rw [K3_0]
  split
  · rw [e]; omega
  · rename_i h
    rw [Int32.lt_iff_toInt_lt, e] at h
    omega
theorem own_ens {a n : Nat} {x : Int32} (ha : a ≤ 1000) (hn : n ≤ 9) (hx : 0 ≤ x.toInt ∧ x.toInt ≤ 9) : (a.toInt32 - n.toInt32 < x) ↔ (a : Int) - n < x.toInt := by
  rw [Int32.lt_iff_toInt_lt, Jvm.Kit.i32_sub (by rw [own_i (by omega), own_i (by omega)]; omega) (by rw [own_i (by omega), own_i (by omega)]; omega), own_i (by omega), own_i (by omega)]
theorem d1_0 : decode prog_3_method_1_code 0 = .ok (.aload_n 0, 1) := by decide +kernel
theorem d1_1 : decode prog_3_method_1_code 1 = .ok (.invokespecial 1, 3) := by decide +kernel
theorem d1_4 : decode prog_3_method_1_code 4 = .ok (.aload_n 0, 1) := by decide +kernel
theorem d1_5 : decode prog_3_method_1_code 5 = .ok (.iload_n 1, 1) := by decide +kernel
theorem d1_6 : decode prog_3_method_1_code 6 = .ok (.bipush 16, 2) := by decide +kernel
theorem d1_8 : decode prog_3_method_1_code 8 = .ok (.invokestatic 7, 3) := by decide +kernel
theorem d1_11 : decode prog_3_method_1_code 11 = .ok (.newarray .byte, 2) := by decide +kernel
theorem d1_13 : decode prog_3_method_1_code 13 = .ok (.putfield 13, 3) := by decide +kernel
theorem d1_16 : decode prog_3_method_1_code 16 = .ok (.return_, 1) := by decide +kernel
theorem ef_1 (m : MethodId) (ob : Addr) (x1 : Int32) : entryFrame m #[(.ref ob), (.int x1)] 2 = mkF m 0 #[.val (.ref ob), .val (.int x1)] [] := by first | (simp [entryFrame, mkF, argsToLocals, Value.category]; done) | rfl
set_option maxRecDepth 65536 in
set_option maxHeartbeats 40000000 in
theorem rm1 (l : Launch) (Z : State) (a0 : Array Value) (hw : ∀ d ∈ tables_1, d.before a0 Z = true) (ob : Addr) (x1 : Int32) (h0 : Heap) (n0 : Nat) (Z0 : n0 ≤ h0.size) (E_ob : Exa Z h0 ob "com/example/inwrap/inwrap/CborWriter") (g_ob : n0 ≤ ob) (F_buffer : Fld Z h0 ob "com/example/inwrap/inwrap/CborWriter" "buffer" "[B" .null) (F_size : Fld Z h0 ob "com/example/inwrap/inwrap/CborWriter" "size" "I" (.int (0 : Int32))) (hx1 : 0 ≤ x1.toInt ∧ x1.toInt ≤ 31) :
    Con l Z (⟨"com/example/inwrap/inwrap/CborWriter", "<init>", "(I)V"⟩ : MethodName) prog_3_method_1_code 2 none ({ frames := 1, cells := 1, slots := 31, locals := 40 } : Room) #[(.ref ob), (.int x1)] h0 (fun v h L => v = none ∧ Fr n0 L ∧ Keep h0 h [ob] ∧ ∃ (b : Addr) (bs : List Int32), h0.size ≤ b ∧ Fld Z h ob "com/example/inwrap/inwrap/CborWriter" "buffer" "[B" (.ref b) ∧ Fld Z h ob "com/example/inwrap/inwrap/CborWriter" "size" "I" (.int (0 : Nat).toInt32) ∧ AI Z h b .byte bs ∧ (∀ x ∈ bs, fits .byte (.int x) = true) ∧ 16 ≤ bs.length ∧ bs.length ≤ 31) := by
  refine Con.of (plainFor_of_name (by first | (simp [plainName, overriddenIn]; done) | decide +kernel)) ?_
  intro p e s m below meth c T X hx hZ hby hml hown hnm hret hlk e0
  rw [ef_1]
  have N0 := Fr.nil n0
  have KP0 := Keep.refl h0 [ob]
  show Go p e below s 1 31 (fun v h L => v = none ∧ Fr n0 L ∧ Keep h0 h [ob] ∧ ∃ (b : Addr) (bs : List Int32), h0.size ≤ b ∧ Fld Z h ob "com/example/inwrap/inwrap/CborWriter" "buffer" "[B" (.ref b) ∧ Fld Z h ob "com/example/inwrap/inwrap/CborWriter" "size" "I" (.int (0 : Nat).toInt32) ∧ AI Z h b .byte bs ∧ (∀ x ∈ bs, fits .byte (.int x) = true) ∧ 16 ≤ bs.length ∧ bs.length ≤ 31) T (mkF m 0 #[.val (.ref ob), .val (.int x1)] [])
  refine w_aloadN X hx (hb hby d1_0) (pc' := 1) rfl rfl rfl ?_
  refine w_initO X hx hZ hown e0 (hw _ (List.mem_of_getElem? (i := 6) rfl)) (hw _ (List.mem_of_getElem? (i := 7) rfl)) (hw _ (List.mem_of_getElem? (i := 8) rfl)) (by rw [hml]; rfl) (hb hby d1_1) (by decide) (W := 0) (by decide) (by decide) (pc' := 4) rfl (fun T1 X1 e1 => ?_)
  refine w_aloadN X1 hx (hb hby d1_4) (pc' := 5) rfl rfl rfl ?_
  refine w_iloadN X1 hx (hb hby d1_5) (pc' := 6) rfl rfl ?_
  refine w_bipush (v := 16) X1 hx (hb hby d1_6) (pc' := 8) rfl rfl ?_
  refine w_callS (argsL := [(.int x1), (.int (16 : Int32))]) (rest := [(.ref ob)]) X1 hx hZ hown e1 (rm3 l Z a0 hw x1 (16 : Int32) h0 n0) (hw _ (List.mem_of_getElem? (i := 9) rfl)) (hw _ (List.mem_of_getElem? (i := 10) rfl)) (hw _ (List.mem_of_getElem? (i := 11) rfl)) (hw _ (List.mem_of_getElem? (i := 12) rfl)) (by decide) (by decide) (W := 1) (by decide) (by decide) (by decide) (by rw [hml]; rfl) (lenOf pd_0 rfl) (Nat.le_refl _) rfl (hb hby d1_8) (pc' := 11) rfl (fun T2 L2 v2 X2 hQ2 => ?_)
  obtain ⟨rfl, N2q, e2⟩ := hQ2
  have N2 := Fr.app N0 N2q
  have X2 : Stand p l e ({ frames := 1, cells := 1, slots := 31, locals := 40 } : Room) s m _ below meth c T2 _ 0 0 := X2
  show Go p e below s 1 31 (fun v h L => v = none ∧ Fr n0 L ∧ Keep h0 h [ob] ∧ ∃ (b : Addr) (bs : List Int32), h0.size ≤ b ∧ Fld Z h ob "com/example/inwrap/inwrap/CborWriter" "buffer" "[B" (.ref b) ∧ Fld Z h ob "com/example/inwrap/inwrap/CborWriter" "size" "I" (.int (0 : Nat).toInt32) ∧ AI Z h b .byte bs ∧ (∀ x ∈ bs, fits .byte (.int x) = true) ∧ 16 ≤ bs.length ∧ bs.length ≤ 31) T2 (mkF m 11 #[.val (.ref ob), .val (.int x1)] [(.int (K3_0 x1 (16 : Int32))), (.ref ob)])
  refine w_newB X2 hx hZ (cap := 31) e2 (hw _ (List.mem_of_getElem? (i := 13) rfl)) (by have := own_mc hx1; rw [Int32.lt_iff_toInt_lt, own_zero]; omega) (by have := own_mc hx1; show (K3_0 x1 (16 : Int32)).toInt.toNat ≤ 31; omega) (by decide) (by decide) (by decide) (hb hby d1_11) (pc' := 13) rfl (fun T3 h3 b3 X3 e3 E3 q3 V3 => ?_)
  have g_b3 : n0 ≤ b3 := by rw [q3]; exact Z0
  have ne_ob_b3 : ob ≠ b3 := by rw [q3]; exact Nat.ne_of_lt E_ob.lt
  have sz_b3 : h0.size ≤ b3 := by rw [q3]; exact KP0.1
  have KP3 := KP0.ext E3
  have zn3 : n0 ≤ h3.size := Nat.le_trans Z0 E3.1
  have f4 := F_buffer.ext E3
  have f5 := E_ob.ext E3
  refine w_putF X3 hx hZ hown e3 f4 f5 (hw _ (List.mem_of_getElem? (i := 14) rfl)) (Or.inl (hw _ (List.mem_of_getElem? (i := 15) rfl))) (hw _ (List.mem_of_getElem? (i := 1) rfl)) (ty := (.array .byte)) (by decide) rfl rfl (hb hby d1_13) (pc' := 16) rfl (fun T6 h6 X6 e6 W6 => ?_)
  have F6 := f4.same W6
  have KP6 := KP3.wr W6 (Or.inl (by simp))
  have N6 := Fr.snoc X6 N2 g_ob
  have zn6 : n0 ≤ h6.size := by rw [W6.size]; exact zn3
  have f7 := F_size.ext E3
  have f8 := f7.other W6 (Or.inr (slot_ne (Or.inl (hw _ (List.mem_of_getElem? (i := 22) rfl))) (Or.inl (hw _ (List.mem_of_getElem? (i := 15) rfl))) (by decide) (t := .int) (t' := (.array .byte)) (by decide) (by decide)))
  have f9 := V3.other W6 (Ne.symm ne_ob_b3)
  have hm := own_mc hx1
  have hlr : (List.replicate (K3_0 x1 (16 : Int32)).toNatClampNeg (0 : Int32)).length = (K3_0 x1 (16 : Int32)).toInt.toNat := by rw [List.length_replicate]; rfl
  exact w_retV X6 hx hret hlk (hb hby d1_16) (by decide) (by decide) (by rw [e6]; exact ⟨rfl, N6, KP6, b3, _, sz_b3, F6, f8, f9, (fun x hx => by rw [List.eq_of_mem_replicate hx]; decide), by omega, by omega⟩)
theorem d4_0 : decode prog_3_method_10_code 0 = .ok (.aload_n 0, 1) := by decide +kernel
theorem d4_1 : decode prog_3_method_10_code 1 = .ok (.getfield 13, 3) := by decide +kernel
theorem d4_4 : decode prog_3_method_10_code 4 = .ok (.aload_n 0, 1) := by decide +kernel
theorem d4_5 : decode prog_3_method_10_code 5 = .ok (.getfield 45, 3) := by decide +kernel
theorem d4_8 : decode prog_3_method_10_code 8 = .ok (.invokestatic 55, 3) := by decide +kernel
theorem d4_11 : decode prog_3_method_10_code 11 = .ok (.areturn, 1) := by decide +kernel
theorem ef_4 (m : MethodId) (ob : Addr) : entryFrame m #[(.ref ob)] 1 = mkF m 0 #[.val (.ref ob)] [] := by first | (simp [entryFrame, mkF, argsToLocals, Value.category]; done) | rfl
set_option maxRecDepth 65536 in
set_option maxHeartbeats 40000000 in
theorem rm4 (l : Launch) (Z : State) (a0 : Array Value) (hw : ∀ d ∈ tables_1, d.before a0 Z = true) (ob : Addr) (h0 : Heap) (n0 : Nat) (Z0 : n0 ≤ h0.size) (ba : Addr) (bs : List Int32) (n : Nat) (F_buffer : Fld Z h0 ob "com/example/inwrap/inwrap/CborWriter" "buffer" "[B" (.ref ba)) (F_size : Fld Z h0 ob "com/example/inwrap/inwrap/CborWriter" "size" "I" (.int n.toInt32)) (V_ba : AI Z h0 ba .byte bs) (hfit : (∀ x ∈ bs, fits .byte (.int x) = true)) (hnl : n ≤ bs.length) (hn : n ≤ 18) :
    Con l Z (⟨"com/example/inwrap/inwrap/CborWriter", "toByteArray", "()[B"⟩ : MethodName) prog_3_method_10_code 1 (some (.array .byte)) ({ frames := 2, cells := 1, slots := 18, locals := 64 } : Room) #[(.ref ob)] h0 (fun v h L => ∃ b : Addr, v = some (.ref b) ∧ Fr n0 L ∧ Keep h0 h [] ∧ h0.size ≤ b ∧ AI Z h b .byte (bs.take n)) := by
  refine Con.of (plainFor_of_name (by first | (simp [plainName, overriddenIn]; done) | decide +kernel)) ?_
  intro p e s m below meth c T X hx hZ hby hml hown hnm hret hlk e0
  rw [ef_4]
  have N0 := Fr.nil n0
  have KP0 := Keep.refl h0 []
  show Go p e below s 1 18 (fun v h L => ∃ b : Addr, v = some (.ref b) ∧ Fr n0 L ∧ Keep h0 h [] ∧ h0.size ≤ b ∧ AI Z h b .byte (bs.take n)) T (mkF m 0 #[.val (.ref ob)] [])
  refine w_aloadN X hx (hb hby d4_0) (pc' := 1) rfl rfl rfl ?_
  refine w_getF X hx hZ hown e0 F_buffer (hw _ (List.mem_of_getElem? (i := 14) rfl)) (hb hby d4_1) (pc' := 4) rfl (fun T10 X10 e10 => ?_)
  refine w_aloadN X10 hx (hb hby d4_4) (pc' := 5) rfl rfl rfl ?_
  refine w_getF X10 hx hZ hown e10 F_size (hw _ (List.mem_of_getElem? (i := 21) rfl)) (hb hby d4_5) (pc' := 8) rfl (fun T11 X11 e11 => ?_)
  refine w_CopyOfB X11 hx hZ (W := 0) (rest := []) (hi := n) hown e11 V_ba hfit (by omega) (own_tabCopyOfB hZ hw) (hw _ (List.mem_of_getElem? (i := 23) rfl)) (hw _ (List.mem_of_getElem? (i := 24) rfl)) (hw _ (List.mem_of_getElem? (i := 25) rfl)) (by decide) (by decide) (by decide) (by show 0 + n ≤ 18; omega) (by rw [hml]; rfl) (Nat.le_refl _) (hb hby d4_8) (pc' := 11) rfl (fun T12 h12 b12 X12 e12 E12 q12 V12 => ?_)
  have g_b12 : n0 ≤ b12 := by rw [q12]; exact Z0
  have ne_ba_b12 : ba ≠ b12 := by rw [q12]; exact Nat.ne_of_lt V_ba.lt
  have sz_b12 : h0.size ≤ b12 := by rw [q12]; exact KP0.1
  have KP12 := KP0.ext E12
  have zn12 : n0 ≤ h12.size := Nat.le_trans Z0 E12.1
  exact w_retA X12 hx hret rfl hlk (hb hby d4_11) (by decide) (by show 0 + n ≤ 18; omega) (by rw [own_cp_take hnl] at V12; rw [e12]; exact ⟨b12, rfl, N0, KP12, sz_b12, V12⟩)
theorem d9_0 : decode prog_3_method_12_code 0 = .ok (.aload_n 0, 1) := by decide +kernel
theorem d9_1 : decode prog_3_method_12_code 1 = .ok (.getfield 13, 3) := by decide +kernel
theorem d9_4 : decode prog_3_method_12_code 4 = .ok (.arraylength, 1) := by decide +kernel
theorem d9_5 : decode prog_3_method_12_code 5 = .ok (.aload_n 0, 1) := by decide +kernel
theorem d9_6 : decode prog_3_method_12_code 6 = .ok (.getfield 45, 3) := by decide +kernel
theorem d9_9 : decode prog_3_method_12_code 9 = .ok (.isub, 1) := by decide +kernel
theorem d9_10 : decode prog_3_method_12_code 10 = .ok (.iload_n 1, 1) := by decide +kernel
theorem d9_11 : decode prog_3_method_12_code 11 = .ok (.if_icmp .ge 30, 3) := by decide +kernel
theorem d9_14 : decode prog_3_method_12_code 14 = .ok (.aload_n 0, 1) := by decide +kernel
theorem d9_15 : decode prog_3_method_12_code 15 = .ok (.aload_n 0, 1) := by decide +kernel
theorem d9_16 : decode prog_3_method_12_code 16 = .ok (.getfield 13, 3) := by decide +kernel
theorem d9_19 : decode prog_3_method_12_code 19 = .ok (.aload_n 0, 1) := by decide +kernel
theorem d9_20 : decode prog_3_method_12_code 20 = .ok (.getfield 13, 3) := by decide +kernel
theorem d9_23 : decode prog_3_method_12_code 23 = .ok (.arraylength, 1) := by decide +kernel
theorem d9_24 : decode prog_3_method_12_code 24 = .ok (.iconst 2, 1) := by decide +kernel
theorem d9_25 : decode prog_3_method_12_code 25 = .ok (.imul, 1) := by decide +kernel
theorem d9_26 : decode prog_3_method_12_code 26 = .ok (.aload_n 0, 1) := by decide +kernel
theorem d9_27 : decode prog_3_method_12_code 27 = .ok (.getfield 45, 3) := by decide +kernel
theorem d9_30 : decode prog_3_method_12_code 30 = .ok (.iload_n 1, 1) := by decide +kernel
theorem d9_31 : decode prog_3_method_12_code 31 = .ok (.iadd, 1) := by decide +kernel
theorem d9_32 : decode prog_3_method_12_code 32 = .ok (.invokestatic 7, 3) := by decide +kernel
theorem d9_35 : decode prog_3_method_12_code 35 = .ok (.invokestatic 55, 3) := by decide +kernel
theorem d9_38 : decode prog_3_method_12_code 38 = .ok (.putfield 13, 3) := by decide +kernel
theorem d9_41 : decode prog_3_method_12_code 41 = .ok (.return_, 1) := by decide +kernel
theorem ef_9 (m : MethodId) (ob : Addr) (x1 : Int32) : entryFrame m #[(.ref ob), (.int x1)] 2 = mkF m 0 #[.val (.ref ob), .val (.int x1)] [] := by first | (simp [entryFrame, mkF, argsToLocals, Value.category]; done) | rfl
set_option maxRecDepth 65536 in
set_option maxHeartbeats 40000000 in
theorem rm9 (l : Launch) (Z : State) (a0 : Array Value) (hw : ∀ d ∈ tables_1, d.before a0 Z = true) (ob : Addr) (x1 : Int32) (h0 : Heap) (n0 : Nat) (Z0 : n0 ≤ h0.size) (ba : Addr) (bs : List Int32) (n : Nat) (E_ob : Exa Z h0 ob "com/example/inwrap/inwrap/CborWriter") (g_ob : n0 ≤ ob) (F_buffer : Fld Z h0 ob "com/example/inwrap/inwrap/CborWriter" "buffer" "[B" (.ref ba)) (F_size : Fld Z h0 ob "com/example/inwrap/inwrap/CborWriter" "size" "I" (.int n.toInt32)) (V_ba : AI Z h0 ba .byte bs) (hfit : (∀ x ∈ bs, fits .byte (.int x) = true)) (nab : ba ≠ ob) (hl : 16 ≤ bs.length ∧ bs.length ≤ 31) (hn : n ≤ 9) (hk : 0 ≤ x1.toInt ∧ x1.toInt ≤ 9) :
    Con l Z (⟨"com/example/inwrap/inwrap/CborWriter", "ensure", "(I)V"⟩ : MethodName) prog_3_method_12_code 2 none ({ frames := 2, cells := 1, slots := 62, locals := 64 } : Room) #[(.ref ob), (.int x1)] h0 (fun v h L => v = none ∧ Fr n0 L ∧ Keep h0 h [ob] ∧ ∃ (b : Addr) (bs' : List Int32), Fld Z h ob "com/example/inwrap/inwrap/CborWriter" "buffer" "[B" (.ref b) ∧ Fld Z h ob "com/example/inwrap/inwrap/CborWriter" "size" "I" (.int n.toInt32) ∧ AI Z h b .byte bs' ∧ (∀ x ∈ bs', fits .byte (.int x) = true) ∧ bs'.take n = bs.take n ∧ (n : Int) + x1.toInt ≤ bs'.length ∧ bs'.length ≤ 62 ∧ (n = 0 → 16 ≤ bs'.length ∧ bs'.length ≤ 31) ∧ b ≠ ob ∧ (b = ba ∨ h0.size ≤ b)) := by
  refine Con.of (plainFor_of_name (by first | (simp [plainName, overriddenIn]; done) | decide +kernel)) ?_
  intro p e s m below meth c T X hx hZ hby hml hown hnm hret hlk e0
  rw [ef_9]
  have N0 := Fr.nil n0
  have KP0 := Keep.refl h0 [ob]
  show Go p e below s 1 62 (fun v h L => v = none ∧ Fr n0 L ∧ Keep h0 h [ob] ∧ ∃ (b : Addr) (bs' : List Int32), Fld Z h ob "com/example/inwrap/inwrap/CborWriter" "buffer" "[B" (.ref b) ∧ Fld Z h ob "com/example/inwrap/inwrap/CborWriter" "size" "I" (.int n.toInt32) ∧ AI Z h b .byte bs' ∧ (∀ x ∈ bs', fits .byte (.int x) = true) ∧ bs'.take n = bs.take n ∧ (n : Int) + x1.toInt ≤ bs'.length ∧ bs'.length ≤ 62 ∧ (n = 0 → 16 ≤ bs'.length ∧ bs'.length ≤ 31) ∧ b ≠ ob ∧ (b = ba ∨ h0.size ≤ b)) T (mkF m 0 #[.val (.ref ob), .val (.int x1)] [])
  refine w_aloadN X hx (hb hby d9_0) (pc' := 1) rfl rfl rfl ?_
  refine w_getF X hx hZ hown e0 F_buffer (hw _ (List.mem_of_getElem? (i := 14) rfl)) (hb hby d9_1) (pc' := 4) rfl (fun T13 X13 e13 => ?_)
  refine w_alenI X13 hx hZ e13 V_ba (n := (bs.length.toInt32)) rfl (hb hby d9_4) (pc' := 5) rfl ?_
  refine w_aloadN X13 hx (hb hby d9_5) (pc' := 6) rfl rfl rfl ?_
  refine w_getF X13 hx hZ hown e13 F_size (hw _ (List.mem_of_getElem? (i := 21) rfl)) (hb hby d9_6) (pc' := 9) rfl (fun T14 X14 e14 => ?_)
  refine w_isub X14 hx (hb hby d9_9) (pc' := 10) rfl ?_
  refine w_iloadN X14 hx (hb hby d9_10) (pc' := 11) rfl rfl ?_
  refine w_icmp_ge X14 hx (hb hby d9_11) (pf := 14) (pt := 41) rfl (by decide) (by decide) (fun hc11 => ?_) (fun hc11 => ?_)
  · rw [own_ens (by omega) hn hk] at hc11
    exact w_retV X14 hx hret hlk (hb hby d9_41) (by decide) (by omega) (by rw [e14]; exact ⟨rfl, N0, KP0, ba, bs, F_buffer, F_size, V_ba, hfit, rfl, (by omega), (by omega), (fun _ => hl), nab, Or.inl rfl⟩)
  · refine w_aloadN X14 hx (hb hby d9_14) (pc' := 15) rfl rfl rfl ?_
    refine w_aloadN X14 hx (hb hby d9_15) (pc' := 16) rfl rfl rfl ?_
    refine w_getF X14 hx hZ hown e14 F_buffer (hw _ (List.mem_of_getElem? (i := 14) rfl)) (hb hby d9_16) (pc' := 19) rfl (fun T15 X15 e15 => ?_)
    refine w_aloadN X15 hx (hb hby d9_19) (pc' := 20) rfl rfl rfl ?_
    refine w_getF X15 hx hZ hown e15 F_buffer (hw _ (List.mem_of_getElem? (i := 14) rfl)) (hb hby d9_20) (pc' := 23) rfl (fun T16 X16 e16 => ?_)
    refine w_alenI X16 hx hZ e16 V_ba (n := (bs.length.toInt32)) rfl (hb hby d9_23) (pc' := 24) rfl ?_
    refine w_iconst (v := 2) X16 hx (hb hby d9_24) (pc' := 25) rfl rfl ?_
    refine w_imul X16 hx (hb hby d9_25) (pc' := 26) rfl ?_
    refine w_aloadN X16 hx (hb hby d9_26) (pc' := 27) rfl rfl rfl ?_
    refine w_getF X16 hx hZ hown e16 F_size (hw _ (List.mem_of_getElem? (i := 21) rfl)) (hb hby d9_27) (pc' := 30) rfl (fun T17 X17 e17 => ?_)
    refine w_iloadN X17 hx (hb hby d9_30) (pc' := 31) rfl rfl ?_
    refine w_iadd X17 hx (hb hby d9_31) (pc' := 32) rfl ?_
    refine w_callS (argsL := [(.int ((bs.length.toInt32) * (2 : Int32))), (.int (n.toInt32 + x1))]) (rest := [(.ref ba), (.ref ob)]) X17 hx hZ hown e17 (rm3 l Z a0 hw ((bs.length.toInt32) * (2 : Int32)) (n.toInt32 + x1) h0 n0) (hw _ (List.mem_of_getElem? (i := 9) rfl)) (hw _ (List.mem_of_getElem? (i := 10) rfl)) (hw _ (List.mem_of_getElem? (i := 11) rfl)) (hw _ (List.mem_of_getElem? (i := 12) rfl)) (by decide) (by decide) (W := 2) (by decide) (by decide) (by decide) (by rw [hml]; rfl) (lenOf pd_0 rfl) (Nat.le_refl _) rfl (hb hby d9_32) (pc' := 35) rfl (fun T18 L18 v18 X18 hQ18 => ?_)
    obtain ⟨rfl, N18q, e18⟩ := hQ18
    have N18 := Fr.app N0 N18q
    have X18 : Stand p l e ({ frames := 2, cells := 1, slots := 62, locals := 64 } : Room) s m _ below meth c T18 _ 0 0 := X18
    show Go p e below s 1 62 (fun v h L => v = none ∧ Fr n0 L ∧ Keep h0 h [ob] ∧ ∃ (b : Addr) (bs' : List Int32), Fld Z h ob "com/example/inwrap/inwrap/CborWriter" "buffer" "[B" (.ref b) ∧ Fld Z h ob "com/example/inwrap/inwrap/CborWriter" "size" "I" (.int n.toInt32) ∧ AI Z h b .byte bs' ∧ (∀ x ∈ bs', fits .byte (.int x) = true) ∧ bs'.take n = bs.take n ∧ (n : Int) + x1.toInt ≤ bs'.length ∧ bs'.length ≤ 62 ∧ (n = 0 → 16 ≤ bs'.length ∧ bs'.length ≤ 31) ∧ b ≠ ob ∧ (b = ba ∨ h0.size ≤ b)) T18 (mkF m 35 #[.val (.ref ob), .val (.int x1)] [(.int (K3_0 ((bs.length.toInt32) * (2 : Int32)) (n.toInt32 + x1))), (.ref ba), (.ref ob)])
    rw [own_mx hl hn hk]
    refine w_CopyOfB X18 hx hZ (W := 1) (rest := [(.ref ob)]) (hi := (2 * bs.length)) hown e18 V_ba hfit (by omega) (own_tabCopyOfB hZ hw) (hw _ (List.mem_of_getElem? (i := 23) rfl)) (hw _ (List.mem_of_getElem? (i := 24) rfl)) (hw _ (List.mem_of_getElem? (i := 25) rfl)) (by decide) (by decide) (by decide) (by show 0 + 2 * bs.length ≤ 62; omega) (by rw [hml]; rfl) (Nat.le_refl _) (hb hby d9_35) (pc' := 38) rfl (fun T19 h19 b19 X19 e19 E19 q19 V19 => ?_)
    have g_b19 : n0 ≤ b19 := by rw [q19]; exact Z0
    have ne_ba_b19 : ba ≠ b19 := by rw [q19]; exact Nat.ne_of_lt V_ba.lt
    have ne_ob_b19 : ob ≠ b19 := by rw [q19]; exact Nat.ne_of_lt E_ob.lt
    have sz_b19 : h0.size ≤ b19 := by rw [q19]; exact KP0.1
    have KP19 := KP0.ext E19
    have zn19 : n0 ≤ h19.size := Nat.le_trans Z0 E19.1
    have f20 := F_buffer.ext E19
    have f21 := E_ob.ext E19
    refine w_putF X19 hx hZ hown e19 f20 f21 (hw _ (List.mem_of_getElem? (i := 14) rfl)) (Or.inl (hw _ (List.mem_of_getElem? (i := 15) rfl))) (hw _ (List.mem_of_getElem? (i := 1) rfl)) (ty := (.array .byte)) (by decide) rfl rfl (hb hby d9_38) (pc' := 41) rfl (fun T22 h22 X22 e22 W22 => ?_)
    have F22 := f20.same W22
    have KP22 := KP19.wr W22 (Or.inl (by simp))
    have N22 := Fr.snoc X22 N18 g_ob
    have zn22 : n0 ≤ h22.size := by rw [W22.size]; exact zn19
    have f23 := F_size.ext E19
    have f24 := f23.other W22 (Or.inr (slot_ne (Or.inl (hw _ (List.mem_of_getElem? (i := 22) rfl))) (Or.inl (hw _ (List.mem_of_getElem? (i := 15) rfl))) (by decide) (t := .int) (t' := (.array .byte)) (by decide) (by decide)))
    have f25 := V19.other W22 (Ne.symm ne_ob_b19)
    rw [own_ens (by omega) hn hk] at hc11
    exact w_retV X22 hx hret hlk (hb hby d9_41) (by decide) (by omega) (by rw [e22]; exact ⟨rfl, N22, KP22, b19, _, F22, f24, f25, own_cp_fit hfit, own_cp_grow (by omega) (by omega), (by rw [own_cpI_len]; omega), (by rw [own_cpI_len]; omega), (fun q => by omega), (Ne.symm ne_ob_b19), Or.inr sz_b19⟩)
/-- what a write leaves -/
abbrev own_W (Z : State) (h0 : Heap) (n0 : Nat) (ob ba : Addr) (n N : Nat) (FIN : List Int32) : Option Value → Heap → List Loc → Prop := fun v h L => v = none ∧ Fr n0 L ∧ Keep h0 h [ob, ba] ∧ ∃ (b : Addr) (bs : List Int32), Fld Z h ob "com/example/inwrap/inwrap/CborWriter" "buffer" "[B" (.ref b) ∧ Fld Z h ob "com/example/inwrap/inwrap/CborWriter" "size" "I" (.int N.toInt32) ∧ AI Z h b .byte bs ∧ (∀ x ∈ bs, fits .byte (.int x) = true) ∧ bs.take N = FIN ∧ N ≤ bs.length ∧ bs.length ≤ 62 ∧ (n = 0 → 16 ≤ bs.length ∧ bs.length ≤ 31) ∧ b ≠ ob ∧ (b = ba ∨ h0.size ≤ b)
theorem d8_0 : decode prog_3_method_11_code 0 = .ok (.iload_n 1, 1) := by decide +kernel
theorem d8_1 : decode prog_3_method_11_code 1 = .ok (.iconst 5, 1) := by decide +kernel
theorem d8_2 : decode prog_3_method_11_code 2 = .ok (.ishl, 1) := by decide +kernel
theorem d8_3 : decode prog_3_method_11_code 3 = .ok (.istore 4, 2) := by decide +kernel
theorem d8_5 : decode prog_3_method_11_code 5 = .ok (.lload_n 2, 1) := by decide +kernel
theorem d8_6 : decode prog_3_method_11_code 6 = .ok (.lconst 0, 1) := by decide +kernel
theorem d8_7 : decode prog_3_method_11_code 7 = .ok (.lcmp, 1) := by decide +kernel
theorem d8_8 : decode prog_3_method_11_code 8 = .ok (.ifCond .lt 40, 3) := by decide +kernel
theorem d8_11 : decode prog_3_method_11_code 11 = .ok (.lload_n 2, 1) := by decide +kernel
theorem d8_12 : decode prog_3_method_11_code 12 = .ok (.ldc2_w 61, 3) := by decide +kernel
theorem d8_15 : decode prog_3_method_11_code 15 = .ok (.lcmp, 1) := by decide +kernel
theorem d8_16 : decode prog_3_method_11_code 16 = .ok (.ifCond .ge 32, 3) := by decide +kernel
theorem d8_19 : decode prog_3_method_11_code 19 = .ok (.aload_n 0, 1) := by decide +kernel
theorem d8_20 : decode prog_3_method_11_code 20 = .ok (.iconst 1, 1) := by decide +kernel
theorem d8_21 : decode prog_3_method_11_code 21 = .ok (.invokevirtual 41, 3) := by decide +kernel
theorem d8_24 : decode prog_3_method_11_code 24 = .ok (.aload_n 0, 1) := by decide +kernel
theorem d8_25 : decode prog_3_method_11_code 25 = .ok (.getfield 13, 3) := by decide +kernel
theorem d8_28 : decode prog_3_method_11_code 28 = .ok (.aload_n 0, 1) := by decide +kernel
theorem d8_29 : decode prog_3_method_11_code 29 = .ok (.dup, 1) := by decide +kernel
theorem d8_30 : decode prog_3_method_11_code 30 = .ok (.getfield 45, 3) := by decide +kernel
theorem d8_33 : decode prog_3_method_11_code 33 = .ok (.dup_x1, 1) := by decide +kernel
theorem d8_34 : decode prog_3_method_11_code 34 = .ok (.iconst 1, 1) := by decide +kernel
theorem d8_35 : decode prog_3_method_11_code 35 = .ok (.iadd, 1) := by decide +kernel
theorem d8_36 : decode prog_3_method_11_code 36 = .ok (.putfield 45, 3) := by decide +kernel
theorem d8_39 : decode prog_3_method_11_code 39 = .ok (.iload 4, 2) := by decide +kernel
theorem d8_41 : decode prog_3_method_11_code 41 = .ok (.i2l, 1) := by decide +kernel
theorem d8_42 : decode prog_3_method_11_code 42 = .ok (.lload_n 2, 1) := by decide +kernel
theorem d8_43 : decode prog_3_method_11_code 43 = .ok (.lor, 1) := by decide +kernel
theorem d8_44 : decode prog_3_method_11_code 44 = .ok (.l2i, 1) := by decide +kernel
theorem d8_45 : decode prog_3_method_11_code 45 = .ok (.i2b, 1) := by decide +kernel
theorem d8_46 : decode prog_3_method_11_code 46 = .ok (.bastore, 1) := by decide +kernel
theorem d8_47 : decode prog_3_method_11_code 47 = .ok (.return_, 1) := by decide +kernel
theorem d8_48 : decode prog_3_method_11_code 48 = .ok (.lload_n 2, 1) := by decide +kernel
theorem d8_49 : decode prog_3_method_11_code 49 = .ok (.lconst 0, 1) := by decide +kernel
theorem d8_50 : decode prog_3_method_11_code 50 = .ok (.lcmp, 1) := by decide +kernel
theorem d8_51 : decode prog_3_method_11_code 51 = .ok (.ifCond .lt 21, 3) := by decide +kernel
theorem d8_54 : decode prog_3_method_11_code 54 = .ok (.lload_n 2, 1) := by decide +kernel
theorem d8_55 : decode prog_3_method_11_code 55 = .ok (.ldc2_w 63, 3) := by decide +kernel
theorem d8_58 : decode prog_3_method_11_code 58 = .ok (.lcmp, 1) := by decide +kernel
theorem d8_59 : decode prog_3_method_11_code 59 = .ok (.ifCond .gt 13, 3) := by decide +kernel
theorem d8_62 : decode prog_3_method_11_code 62 = .ok (.bipush 24, 2) := by decide +kernel
theorem d8_64 : decode prog_3_method_11_code 64 = .ok (.istore 5, 2) := by decide +kernel
theorem d8_66 : decode prog_3_method_11_code 66 = .ok (.iconst 1, 1) := by decide +kernel
theorem d8_67 : decode prog_3_method_11_code 67 = .ok (.istore 6, 2) := by decide +kernel
theorem d8_69 : decode prog_3_method_11_code 69 = .ok (.goto 59, 3) := by decide +kernel
theorem d8_72 : decode prog_3_method_11_code 72 = .ok (.lload_n 2, 1) := by decide +kernel
theorem d8_73 : decode prog_3_method_11_code 73 = .ok (.lconst 0, 1) := by decide +kernel
theorem d8_74 : decode prog_3_method_11_code 74 = .ok (.lcmp, 1) := by decide +kernel
theorem d8_75 : decode prog_3_method_11_code 75 = .ok (.ifCond .lt 21, 3) := by decide +kernel
theorem d8_78 : decode prog_3_method_11_code 78 = .ok (.lload_n 2, 1) := by decide +kernel
theorem d8_79 : decode prog_3_method_11_code 79 = .ok (.ldc2_w 65, 3) := by decide +kernel
theorem d8_82 : decode prog_3_method_11_code 82 = .ok (.lcmp, 1) := by decide +kernel
theorem d8_83 : decode prog_3_method_11_code 83 = .ok (.ifCond .gt 13, 3) := by decide +kernel
theorem d8_86 : decode prog_3_method_11_code 86 = .ok (.bipush 25, 2) := by decide +kernel
theorem d8_88 : decode prog_3_method_11_code 88 = .ok (.istore 5, 2) := by decide +kernel
theorem d8_90 : decode prog_3_method_11_code 90 = .ok (.iconst 2, 1) := by decide +kernel
theorem d8_91 : decode prog_3_method_11_code 91 = .ok (.istore 6, 2) := by decide +kernel
theorem d8_93 : decode prog_3_method_11_code 93 = .ok (.goto 35, 3) := by decide +kernel
theorem d8_96 : decode prog_3_method_11_code 96 = .ok (.lload_n 2, 1) := by decide +kernel
theorem d8_97 : decode prog_3_method_11_code 97 = .ok (.lconst 0, 1) := by decide +kernel
theorem d8_98 : decode prog_3_method_11_code 98 = .ok (.lcmp, 1) := by decide +kernel
theorem d8_99 : decode prog_3_method_11_code 99 = .ok (.ifCond .lt 21, 3) := by decide +kernel
theorem d8_102 : decode prog_3_method_11_code 102 = .ok (.lload_n 2, 1) := by decide +kernel
theorem d8_103 : decode prog_3_method_11_code 103 = .ok (.ldc2_w 67, 3) := by decide +kernel
theorem d8_106 : decode prog_3_method_11_code 106 = .ok (.lcmp, 1) := by decide +kernel
theorem d8_107 : decode prog_3_method_11_code 107 = .ok (.ifCond .gt 13, 3) := by decide +kernel
theorem d8_110 : decode prog_3_method_11_code 110 = .ok (.bipush 26, 2) := by decide +kernel
theorem d8_112 : decode prog_3_method_11_code 112 = .ok (.istore 5, 2) := by decide +kernel
theorem d8_114 : decode prog_3_method_11_code 114 = .ok (.iconst 4, 1) := by decide +kernel
theorem d8_115 : decode prog_3_method_11_code 115 = .ok (.istore 6, 2) := by decide +kernel
theorem d8_117 : decode prog_3_method_11_code 117 = .ok (.goto 11, 3) := by decide +kernel
theorem d8_120 : decode prog_3_method_11_code 120 = .ok (.bipush 27, 2) := by decide +kernel
theorem d8_122 : decode prog_3_method_11_code 122 = .ok (.istore 5, 2) := by decide +kernel
theorem d8_124 : decode prog_3_method_11_code 124 = .ok (.bipush 8, 2) := by decide +kernel
theorem d8_126 : decode prog_3_method_11_code 126 = .ok (.istore 6, 2) := by decide +kernel
theorem d8_128 : decode prog_3_method_11_code 128 = .ok (.aload_n 0, 1) := by decide +kernel
theorem d8_129 : decode prog_3_method_11_code 129 = .ok (.iconst 1, 1) := by decide +kernel
theorem d8_130 : decode prog_3_method_11_code 130 = .ok (.iload 6, 2) := by decide +kernel
theorem d8_132 : decode prog_3_method_11_code 132 = .ok (.iadd, 1) := by decide +kernel
theorem d8_133 : decode prog_3_method_11_code 133 = .ok (.invokevirtual 41, 3) := by decide +kernel
theorem d8_136 : decode prog_3_method_11_code 136 = .ok (.aload_n 0, 1) := by decide +kernel
theorem d8_137 : decode prog_3_method_11_code 137 = .ok (.getfield 13, 3) := by decide +kernel
theorem d8_140 : decode prog_3_method_11_code 140 = .ok (.aload_n 0, 1) := by decide +kernel
theorem d8_141 : decode prog_3_method_11_code 141 = .ok (.dup, 1) := by decide +kernel
theorem d8_142 : decode prog_3_method_11_code 142 = .ok (.getfield 45, 3) := by decide +kernel
theorem d8_145 : decode prog_3_method_11_code 145 = .ok (.dup_x1, 1) := by decide +kernel
theorem d8_146 : decode prog_3_method_11_code 146 = .ok (.iconst 1, 1) := by decide +kernel
theorem d8_147 : decode prog_3_method_11_code 147 = .ok (.iadd, 1) := by decide +kernel
theorem d8_148 : decode prog_3_method_11_code 148 = .ok (.putfield 45, 3) := by decide +kernel
theorem d8_151 : decode prog_3_method_11_code 151 = .ok (.iload 4, 2) := by decide +kernel
theorem d8_153 : decode prog_3_method_11_code 153 = .ok (.iload 5, 2) := by decide +kernel
theorem d8_155 : decode prog_3_method_11_code 155 = .ok (.ior, 1) := by decide +kernel
theorem d8_156 : decode prog_3_method_11_code 156 = .ok (.i2b, 1) := by decide +kernel
theorem d8_157 : decode prog_3_method_11_code 157 = .ok (.bastore, 1) := by decide +kernel
theorem d8_158 : decode prog_3_method_11_code 158 = .ok (.iload 6, 2) := by decide +kernel
theorem d8_160 : decode prog_3_method_11_code 160 = .ok (.iconst 1, 1) := by decide +kernel
theorem d8_161 : decode prog_3_method_11_code 161 = .ok (.isub, 1) := by decide +kernel
theorem d8_162 : decode prog_3_method_11_code 162 = .ok (.bipush 8, 2) := by decide +kernel
theorem d8_164 : decode prog_3_method_11_code 164 = .ok (.imul, 1) := by decide +kernel
theorem d8_165 : decode prog_3_method_11_code 165 = .ok (.istore 7, 2) := by decide +kernel
theorem d8_167 : decode prog_3_method_11_code 167 = .ok (.iload 7, 2) := by decide +kernel
theorem d8_169 : decode prog_3_method_11_code 169 = .ok (.ifCond .lt 31, 3) := by decide +kernel
theorem d8_172 : decode prog_3_method_11_code 172 = .ok (.aload_n 0, 1) := by decide +kernel
theorem d8_173 : decode prog_3_method_11_code 173 = .ok (.getfield 13, 3) := by decide +kernel
theorem d8_176 : decode prog_3_method_11_code 176 = .ok (.aload_n 0, 1) := by decide +kernel
theorem d8_177 : decode prog_3_method_11_code 177 = .ok (.dup, 1) := by decide +kernel
theorem d8_178 : decode prog_3_method_11_code 178 = .ok (.getfield 45, 3) := by decide +kernel
theorem d8_181 : decode prog_3_method_11_code 181 = .ok (.dup_x1, 1) := by decide +kernel
theorem d8_182 : decode prog_3_method_11_code 182 = .ok (.iconst 1, 1) := by decide +kernel
theorem d8_183 : decode prog_3_method_11_code 183 = .ok (.iadd, 1) := by decide +kernel
theorem d8_184 : decode prog_3_method_11_code 184 = .ok (.putfield 45, 3) := by decide +kernel
theorem d8_187 : decode prog_3_method_11_code 187 = .ok (.lload_n 2, 1) := by decide +kernel
theorem d8_188 : decode prog_3_method_11_code 188 = .ok (.iload 7, 2) := by decide +kernel
theorem d8_190 : decode prog_3_method_11_code 190 = .ok (.lushr, 1) := by decide +kernel
theorem d8_191 : decode prog_3_method_11_code 191 = .ok (.l2i, 1) := by decide +kernel
theorem d8_192 : decode prog_3_method_11_code 192 = .ok (.i2b, 1) := by decide +kernel
theorem d8_193 : decode prog_3_method_11_code 193 = .ok (.bastore, 1) := by decide +kernel
theorem d8_194 : decode prog_3_method_11_code 194 = .ok (.iinc 7 (-8), 3) := by decide +kernel
theorem d8_197 : decode prog_3_method_11_code 197 = .ok (.goto (-30), 3) := by decide +kernel
theorem d8_200 : decode prog_3_method_11_code 200 = .ok (.return_, 1) := by decide +kernel
set_option maxRecDepth 65536 in
set_option maxHeartbeats 40000000 in
theorem lw {p : Program} {l : Launch} {e : Env} {s : State} {m : MethodId} {args : Array Value} {below : List Frame} {meth : Method} {c : Code} {Z : State} {a0 : Array Value} {h0 : Heap} {n0 : Nat} (hx : p.tables.exec = Jvm.exec) (hZ : Z.Warmed39 s.vm) (hw : ∀ d ∈ tables_1, d.before a0 Z = true) (hby : c.code = prog_3_method_11_code) (hml : c.maxLocals = 8) (hown : s.vm.findClass "com/example/inwrap/inwrap/CborWriter" = some m.cls) (hret : meth.sig.returnType = none) (hlk : meth.locks = false) (x1 t4 i5 l6 : Int32) (x2 : Int64) (ob ba bb : Addr) (n N : Nat) (FIN : List Int32) (g_ob : n0 ≤ ob) (g_bb : n0 ≤ bb) (nbb : bb ≠ ob) (hin : bb ∈ [ob, ba] ∨ h0.size ≤ bb) (hor : bb = ba ∨ h0.size ≤ bb) : ∀ (j : Nat) (T : State) (locs : List Loc) (h : Heap) (k : Nat) (bs : List Int32) (sh : Int32) (X : Stand p l e ({ frames := 3, cells := 1, slots := 62, locals := 100 } : Room) s m args below meth c T locs 1 62) (e0 : T.heap = h) (N0 : Fr n0 locs) (Z0 : n0 ≤ h.size) (KP0 : Keep h0 h [ob, ba]) (E_ob : Exa Z h ob "com/example/inwrap/inwrap/CborWriter") (F_buffer : Fld Z h ob "com/example/inwrap/inwrap/CborWriter" "buffer" "[B" (.ref bb)) (F_size : Fld Z h ob "com/example/inwrap/inwrap/CborWriter" "size" "I" (.int k.toInt32)) (V_bb : AI Z h bb .byte bs) (hfit : (∀ x ∈ bs, fits .byte (.int x) = true)) (hsh : sh = own_sh j) (hj : j ≤ 8) (hkN : k + j = N) (hNl : N ≤ bs.length) (h62 : bs.length ≤ 62) (h31 : n = 0 → 16 ≤ bs.length ∧ bs.length ≤ 31) (hF : bs.take k ++ own_by x2 j = FIN),
    Go p e below s 1 62 (own_W Z h0 n0 ob ba n N FIN) T (mkF m 167 #[.val (.ref ob), .val (.int x1), .val (.long x2), .second, .val (.int t4), .val (.int i5), .val (.int l6), .val (.int sh)] []) := by
  intro j
  induction j with
  | zero =>
    intro T locs h k bs sh X e0 N0 Z0 KP0 E_ob F_buffer F_size V_bb hfit hsh hj hkN hNl h62 h31 hF
    rw [Nat.add_zero] at hkN
    rw [own_by, List.append_nil] at hF
    subst hkN
    refine w_iload X hx (hb hby d8_167) (pc' := 169) rfl rfl ?_
    have hf169 : sh < (0 : Int32) := by rw [hsh]; exact (own_shn 0 (by decide)).2 rfl
    refine w_if_lt X hx (hb hby d8_169) (pf := 172) (pt := 200) rfl (by decide) (by decide) (fun hc169 => ?_) (fun hc => absurd hf169 hc)
    exact w_retV X hx hret hlk (hb hby d8_200) (by decide) (by decide) (by rw [e0]; exact ⟨rfl, N0, KP0, bb, bs, F_buffer, F_size, V_bb, hfit, hF, hNl, h62, h31, nbb, hor⟩)
  | succ j ih =>
    intro T locs h k bs sh X e0 N0 Z0 KP0 E_ob F_buffer F_size V_bb hfit hsh hj hkN hNl h62 h31 hF
    refine w_iload X hx (hb hby d8_167) (pc' := 169) rfl rfl ?_
    have hf169 : ¬ (sh < (0 : Int32)) := by rw [hsh]; exact fun q => absurd ((own_shn (j + 1) (by omega)).1 q) (by omega)
    refine w_if_lt X hx (hb hby d8_169) (pf := 172) (pt := 200) rfl (by decide) (by decide) (fun hc => absurd hc hf169) (fun hc169 => ?_)
    refine w_aloadN X hx (hb hby d8_172) (pc' := 173) rfl rfl rfl ?_
    refine w_getF X hx hZ hown e0 F_buffer (hw _ (List.mem_of_getElem? (i := 14) rfl)) (hb hby d8_173) (pc' := 176) rfl (fun T26 X26 e26 => ?_)
    refine w_aloadN X26 hx (hb hby d8_176) (pc' := 177) rfl rfl rfl ?_
    refine w_dup X26 hx (hb hby d8_177) (pc' := 178) rfl rfl ?_
    refine w_getF X26 hx hZ hown e26 F_size (hw _ (List.mem_of_getElem? (i := 21) rfl)) (hb hby d8_178) (pc' := 181) rfl (fun T27 X27 e27 => ?_)
    refine w_dupX1 X27 hx (hb hby d8_181) (pc' := 182) rfl rfl rfl ?_
    refine w_iconst (v := 1) X27 hx (hb hby d8_182) (pc' := 183) rfl rfl ?_
    refine w_iadd X27 hx (hb hby d8_183) (pc' := 184) rfl ?_
    rw [own_iinc (by omega)]
    refine w_putF X27 hx hZ hown e27 F_size E_ob (hw _ (List.mem_of_getElem? (i := 21) rfl)) (Or.inl (hw _ (List.mem_of_getElem? (i := 22) rfl))) (hw _ (List.mem_of_getElem? (i := 1) rfl)) (ty := .int) (by decide) rfl rfl (hb hby d8_184) (pc' := 187) rfl (fun T28 h28 X28 e28 W28 => ?_)
    have F28 := F_size.same W28
    have KP28 := KP0.wr W28 (Or.inl (by simp))
    have N28 := Fr.snoc X28 N0 g_ob
    have zn28 : n0 ≤ h28.size := by rw [W28.size]; exact Z0
    refine w_lloadN X28 hx (hb hby d8_187) (pc' := 188) rfl rfl ?_
    refine w_iload X28 hx (hb hby d8_188) (pc' := 190) rfl rfl ?_
    refine w_lushr X28 hx (hb hby d8_190) (pc' := 191) rfl ?_
    refine w_l2i X28 hx (hb hby d8_191) (pc' := 192) rfl ?_
    refine w_i2b X28 hx (hb hby d8_192) (pc' := 193) rfl ?_
    have f29 := V_bb.other W28 nbb
    refine w_bastore X28 hx hZ e28 f29 (own_nneg (by omega)) (by rw [own_nat (by omega)]; omega) (hb hby d8_193) (pc' := 194) rfl (fun T30 h30 X30 e30 W30 V30 => ?_)
    have qv30 : (nar .byte (jlushr x2 sh).toInt32.toInt8.toInt32) = (jlushr x2 sh).toInt32.toInt8.toInt32 := own_nb _
    rw [qv30] at V30
    have V30 : AI Z h30 bb .byte (bs.set k (jlushr x2 sh).toInt32.toInt8.toInt32) := by rw [show (k : Nat) = (k.toInt32).toNatClampNeg from (own_nat (by omega)).symm]; exact V30
    have KP30 := KP28.wr W30 hin
    have N30 := Fr.snoc X30 N28 g_bb
    have zn30 : n0 ≤ h30.size := by rw [W30.size]; exact zn28
    refine w_iinc (Ls' := #[.val (.ref ob), .val (.int x1), .val (.long x2), .second, .val (.int t4), .val (.int i5), .val (.int l6), .val (.int (sh + (-8 : Int32)))]) (w := (-8 : Int32)) X30 hx (hb hby d8_194) (pc' := 197) rfl rfl rfl rfl ?_
    refine w_goto X30 hx (hb hby d8_197) (pc' := 167) (by decide) (by decide) ?_
    have f31 := E_ob.wr W28
    have f32 := f31.wr W30
    have f33 := F_buffer.other W28 (Or.inr (slot_ne (Or.inl (hw _ (List.mem_of_getElem? (i := 15) rfl))) (Or.inl (hw _ (List.mem_of_getElem? (i := 22) rfl))) (by decide) (t := (.array .byte)) (t' := .int) (by decide) (by decide)))
    have f34 := f33.other W30 (Or.inl (Ne.symm nbb))
    have f35 := F28.other W30 (Or.inl (Ne.symm nbb))
    exact ih _ _ _ (k + 1) _ _ X30 e30 N30 zn30 KP30 f32 f34 f35 V30 (own_fitset hfit (own_fitb _)) (by rw [hsh]; exact own_shd j (by omega)) (by omega) (by omega) (by rw [List.length_set]; omega) (by rw [List.length_set]; omega) (by rw [List.length_set]; exact h31) (by rw [own_take1 (by omega), ← hF, own_by, hsh, List.append_assoc]; rfl)
theorem ef_8 (m : MethodId) (ob : Addr) (x1 : Int32) (x2 : Int64) : entryFrame m #[(.ref ob), (.int x1), (.long x2)] 8 = mkF m 0 #[.val (.ref ob), .val (.int x1), .val (.long x2), .second, .unset, .unset, .unset, .unset] [] := by first | (simp [entryFrame, mkF, argsToLocals, Value.category]; done) | rfl
set_option maxRecDepth 65536 in
set_option maxHeartbeats 40000000 in
theorem rm8 (l : Launch) (Z : State) (a0 : Array Value) (hw : ∀ d ∈ tables_1, d.before a0 Z = true) (ob : Addr) (x1 : Int32) (x2 : Int64) (h0 : Heap) (n0 : Nat) (Z0 : n0 ≤ h0.size) (ba : Addr) (bs : List Int32) (n N : Nat) (FIN : List Int32) (E_ob : Exa Z h0 ob "com/example/inwrap/inwrap/CborWriter") (g_ob : n0 ≤ ob) (g_ba : n0 ≤ ba) (F_buffer : Fld Z h0 ob "com/example/inwrap/inwrap/CborWriter" "buffer" "[B" (.ref ba)) (F_size : Fld Z h0 ob "com/example/inwrap/inwrap/CborWriter" "size" "I" (.int n.toInt32)) (V_ba : AI Z h0 ba .byte bs) (hfit : (∀ x ∈ bs, fits .byte (.int x) = true)) (nab : ba ≠ ob) (hl : 16 ≤ bs.length ∧ bs.length ≤ 31) (hn : n ≤ 9) (hN : N = n + (own_hd x1 x2).length) (hF : FIN = bs.take n ++ own_hd x1 x2) :
    Con l Z (⟨"com/example/inwrap/inwrap/CborWriter", "writeHead", "(IJ)V"⟩ : MethodName) prog_3_method_11_code 8 none ({ frames := 3, cells := 1, slots := 62, locals := 100 } : Room) #[(.ref ob), (.int x1), (.long x2)] h0 (own_W Z h0 n0 ob ba n N FIN) := by
  refine Con.of (plainFor_of_name (by first | (simp [plainName, overriddenIn]; done) | decide +kernel)) ?_
  intro p e s m below meth c T X hx hZ hby hml hown hnm hret hlk e0
  rw [ef_8]
  have N0 := Fr.nil n0
  have KP0 := Keep.refl h0 [ob, ba]
  show Go p e below s 1 62 (own_W Z h0 n0 ob ba n N FIN) T (mkF m 0 #[.val (.ref ob), .val (.int x1), .val (.long x2), .second, .unset, .unset, .unset, .unset] [])
  refine w_iloadN X hx (hb hby d8_0) (pc' := 1) rfl rfl ?_
  refine w_iconst (v := 5) X hx (hb hby d8_1) (pc' := 2) rfl rfl ?_
  refine w_ishl X hx (hb hby d8_2) (pc' := 3) rfl ?_
  refine w_istore (Ls' := #[.val (.ref ob), .val (.int x1), .val (.long x2), .second, .val (.int (x1 <<< ((5 : Int32) &&& 31))), .unset, .unset, .unset]) X hx (hb hby d8_3) (pc' := 5) rfl rfl ?_
  refine w_lloadN X hx (hb hby d8_5) (pc' := 6) rfl rfl ?_
  refine w_lconst (v := 0) X hx (hb hby d8_6) (pc' := 7) rfl rfl ?_
  refine w_lcmp X hx (hb hby d8_7) (pc' := 8) rfl ?_
  refine w_ifL_lt X hx (hb hby d8_8) (pf := 11) (pt := 48) rfl (by decide) (by decide) (fun hc8 => ?_) (fun hc8 => ?_)
  · refine w_lloadN X hx (hb hby d8_48) (pc' := 49) rfl rfl ?_
    refine w_lconst (v := 0) X hx (hb hby d8_49) (pc' := 50) rfl rfl ?_
    refine w_lcmp X hx (hb hby d8_50) (pc' := 51) rfl ?_
    have hf51 : x2 < (0 : Int64) := hc8
    refine w_ifL_lt X hx (hb hby d8_51) (pf := 54) (pt := 72) rfl (by decide) (by decide) (fun hc51 => ?_) (fun hc => absurd hf51 hc)
    refine w_lloadN X hx (hb hby d8_72) (pc' := 73) rfl rfl ?_
    refine w_lconst (v := 0) X hx (hb hby d8_73) (pc' := 74) rfl rfl ?_
    refine w_lcmp X hx (hb hby d8_74) (pc' := 75) rfl ?_
    have hf75 : x2 < (0 : Int64) := hc8
    refine w_ifL_lt X hx (hb hby d8_75) (pf := 78) (pt := 96) rfl (by decide) (by decide) (fun hc75 => ?_) (fun hc => absurd hf75 hc)
    refine w_lloadN X hx (hb hby d8_96) (pc' := 97) rfl rfl ?_
    refine w_lconst (v := 0) X hx (hb hby d8_97) (pc' := 98) rfl rfl ?_
    refine w_lcmp X hx (hb hby d8_98) (pc' := 99) rfl ?_
    have hf99 : x2 < (0 : Int64) := hc8
    refine w_ifL_lt X hx (hb hby d8_99) (pf := 102) (pt := 120) rfl (by decide) (by decide) (fun hc99 => ?_) (fun hc => absurd hf99 hc)
    refine w_bipush (v := 27) X hx (hb hby d8_120) (pc' := 122) rfl rfl ?_
    refine w_istore (Ls' := #[.val (.ref ob), .val (.int x1), .val (.long x2), .second, .val (.int (x1 <<< ((5 : Int32) &&& 31))), .val (.int (27 : Int32)), .unset, .unset]) X hx (hb hby d8_122) (pc' := 124) rfl rfl ?_
    refine w_bipush (v := 8) X hx (hb hby d8_124) (pc' := 126) rfl rfl ?_
    refine w_istore (Ls' := #[.val (.ref ob), .val (.int x1), .val (.long x2), .second, .val (.int (x1 <<< ((5 : Int32) &&& 31))), .val (.int (27 : Int32)), .val (.int (8 : Int32)), .unset]) X hx (hb hby d8_126) (pc' := 128) rfl rfl ?_
    refine w_aloadN X hx (hb hby d8_128) (pc' := 129) rfl rfl rfl ?_
    refine w_iconst (v := 1) X hx (hb hby d8_129) (pc' := 130) rfl rfl ?_
    refine w_iload X hx (hb hby d8_130) (pc' := 132) rfl rfl ?_
    refine w_iadd X hx (hb hby d8_132) (pc' := 133) rfl ?_
    rw [show ((1 : Int32) + (8 : Int32)) = (9 : Int32) from by decide]
    refine w_callP (argsL := [(.int (9 : Int32))]) (rest := []) (a := ob) X hx hZ hown e0 E_ob (rm9 l Z a0 hw ob (9 : Int32) h0 n0 Z0 ba bs n E_ob g_ob F_buffer F_size V_ba hfit nab hl hn (by decide)) (hw _ (List.mem_of_getElem? (i := 44) rfl)) (hw _ (List.mem_of_getElem? (i := 45) rfl)) (own_selp (hw _ (List.mem_of_getElem? (i := 1) rfl)) (hw _ (List.mem_of_getElem? (i := 46) rfl)) (hw _ (List.mem_of_getElem? (i := 45) rfl)) (by decide)) (hw _ (List.mem_of_getElem? (i := 46) rfl)) (hw _ (List.mem_of_getElem? (i := 2) rfl)) (hw _ (List.mem_of_getElem? (i := 47) rfl)) (by decide) (by decide) (W := 0) (by decide) (by decide) (by decide) (by rw [hml]; rfl) (lenOf pd_1 rfl) (Nat.le_refl _) rfl (hb hby d8_133) (pc' := 136) rfl (fun T36 L36 v36 X36 hQ36 => ?_)
    obtain ⟨rfl, N36q, K36, b36, bs36, Fb36, Fs36, V36, fit36, tk36, ln36, l6236, l3136, nb36, or36⟩ := hQ36
    have zn36 : n0 ≤ T36.heap.size := Nat.le_trans Z0 K36.1
    have KP36 := KP0.trans K36 (allS (Or.inl (by simp)) all0)
    have N36 := Fr.app N0 N36q
    have X36 : Stand p l e ({ frames := 3, cells := 1, slots := 62, locals := 100 } : Room) s m _ below meth c T36 _ 1 62 := X36
    have g_b36 : n0 ≤ b36 := or36.elim (fun q => by rw [q]; exact g_ba) (fun q => Nat.le_trans Z0 q)
    have hin36 : b36 ∈ [ob, ba] ∨ h0.size ≤ b36 := or36.elim (fun q => Or.inl (by rw [q]; simp)) Or.inr
    have ll36 : ((9 : Int32) : Int32).toInt = 9 := by decide
    show Go p e below s 1 62 (own_W Z h0 n0 ob ba n N FIN) T36 (mkF m 136 #[.val (.ref ob), .val (.int x1), .val (.long x2), .second, .val (.int (x1 <<< ((5 : Int32) &&& 31))), .val (.int (27 : Int32)), .val (.int (8 : Int32)), .unset] [])
    refine w_aloadN X36 hx (hb hby d8_136) (pc' := 137) rfl rfl rfl ?_
    refine w_getF X36 hx hZ hown rfl Fb36 (hw _ (List.mem_of_getElem? (i := 14) rfl)) (hb hby d8_137) (pc' := 140) rfl (fun T37 X37 e37 => ?_)
    refine w_aloadN X37 hx (hb hby d8_140) (pc' := 141) rfl rfl rfl ?_
    refine w_dup X37 hx (hb hby d8_141) (pc' := 142) rfl rfl ?_
    refine w_getF X37 hx hZ hown e37 Fs36 (hw _ (List.mem_of_getElem? (i := 21) rfl)) (hb hby d8_142) (pc' := 145) rfl (fun T38 X38 e38 => ?_)
    refine w_dupX1 X38 hx (hb hby d8_145) (pc' := 146) rfl rfl rfl ?_
    refine w_iconst (v := 1) X38 hx (hb hby d8_146) (pc' := 147) rfl rfl ?_
    refine w_iadd X38 hx (hb hby d8_147) (pc' := 148) rfl ?_
    rw [own_iinc (by omega)]
    have f39 := E_ob.keep K36
    refine w_putF X38 hx hZ hown e38 Fs36 f39 (hw _ (List.mem_of_getElem? (i := 21) rfl)) (Or.inl (hw _ (List.mem_of_getElem? (i := 22) rfl))) (hw _ (List.mem_of_getElem? (i := 1) rfl)) (ty := .int) (by decide) rfl rfl (hb hby d8_148) (pc' := 151) rfl (fun T40 h40 X40 e40 W40 => ?_)
    have F40 := Fs36.same W40
    have KP40 := KP36.wr W40 (Or.inl (by simp))
    have N40 := Fr.snoc X40 N36 g_ob
    have zn40 : n0 ≤ h40.size := by rw [W40.size]; exact zn36
    refine w_iload X40 hx (hb hby d8_151) (pc' := 153) rfl rfl ?_
    refine w_iload X40 hx (hb hby d8_153) (pc' := 155) rfl rfl ?_
    refine w_ior X40 hx (hb hby d8_155) (pc' := 156) rfl ?_
    refine w_i2b X40 hx (hb hby d8_156) (pc' := 157) rfl ?_
    have f41 := V36.other W40 nb36
    refine w_bastore X40 hx hZ e40 f41 (own_nneg (by omega)) (by rw [own_nat (by omega)]; omega) (hb hby d8_157) (pc' := 158) rfl (fun T42 h42 X42 e42 W42 V42 => ?_)
    have qv42 : (nar .byte ((x1 <<< ((5 : Int32) &&& 31)) ||| (27 : Int32)).toInt8.toInt32) = ((x1 <<< ((5 : Int32) &&& 31)) ||| (27 : Int32)).toInt8.toInt32 := own_nb _
    rw [qv42] at V42
    have V42 : AI Z h42 b36 .byte (bs36.set n ((x1 <<< ((5 : Int32) &&& 31)) ||| (27 : Int32)).toInt8.toInt32) := by rw [show (n : Nat) = (n.toInt32).toNatClampNeg from (own_nat (by omega)).symm]; exact V42
    have KP42 := KP40.wr W42 hin36
    have N42 := Fr.snoc X42 N40 g_b36
    have zn42 : n0 ≤ h42.size := by rw [W42.size]; exact zn40
    refine w_iload X42 hx (hb hby d8_158) (pc' := 160) rfl rfl ?_
    refine w_iconst (v := 1) X42 hx (hb hby d8_160) (pc' := 161) rfl rfl ?_
    refine w_isub X42 hx (hb hby d8_161) (pc' := 162) rfl ?_
    rw [show ((8 : Int32) - (1 : Int32)) = (7 : Int32) from by decide]
    refine w_bipush (v := 8) X42 hx (hb hby d8_162) (pc' := 164) rfl rfl ?_
    refine w_imul X42 hx (hb hby d8_164) (pc' := 165) rfl ?_
    rw [show ((7 : Int32) * (8 : Int32)) = (56 : Int32) from by decide]
    refine w_istore (Ls' := #[.val (.ref ob), .val (.int x1), .val (.long x2), .second, .val (.int (x1 <<< ((5 : Int32) &&& 31))), .val (.int (27 : Int32)), .val (.int (8 : Int32)), .val (.int (56 : Int32))]) X42 hx (hb hby d8_165) (pc' := 167) rfl rfl ?_
    have f43 := f39.wr W40
    have f44 := f43.wr W42
    have f45 := Fb36.other W40 (Or.inr (slot_ne (Or.inl (hw _ (List.mem_of_getElem? (i := 15) rfl))) (Or.inl (hw _ (List.mem_of_getElem? (i := 22) rfl))) (by decide) (t := (.array .byte)) (t' := .int) (by decide) (by decide)))
    have f46 := f45.other W42 (Or.inl (Ne.symm nb36))
    have f47 := F40.other W42 (Or.inl (Ne.symm nb36))
    have hH : own_hd x1 x2 = own_l x1 (27 : Int32) x2 8 := by rw [own_hd, if_pos hc8]
    have hN' : N = n + 1 + 8 := by have hll := own_l_len x1 (27 : Int32) x2 8; rw [hN, hH]; omega
    exact lw hx hZ hw hby hml hown hret hlk x1 (x1 <<< ((5 : Int32) &&& 31)) (27 : Int32) (8 : Int32) x2 ob ba b36 n N FIN g_ob g_b36 nb36 hin36 or36 8 _ _ _ (n + 1) _ (56 : Int32) X42 e42 N42 zn42 KP42 f44 f46 f47 V42 (own_fitset fit36 (own_fitb _)) (by decide) (by decide) (by omega) (by rw [List.length_set]; omega) (by rw [List.length_set]; omega) (by rw [List.length_set]; exact l3136) (by rw [own_take1 (by omega), tk36, hF, hH, List.append_assoc]; rfl)
  · refine w_lloadN X hx (hb hby d8_11) (pc' := 12) rfl rfl ?_
    refine w_ldc2 X hx hZ hown (hw _ (List.mem_of_getElem? (i := 43) rfl)) (hb hby d8_12) (pc' := 15) rfl ?_
    refine w_lcmp X hx (hb hby d8_15) (pc' := 16) rfl ?_
    refine w_ifL_ge X hx (hb hby d8_16) (pf := 19) (pt := 48) rfl (by decide) (by decide) (fun hc16 => ?_) (fun hc16 => ?_)
    · refine w_lloadN X hx (hb hby d8_48) (pc' := 49) rfl rfl ?_
      refine w_lconst (v := 0) X hx (hb hby d8_49) (pc' := 50) rfl rfl ?_
      refine w_lcmp X hx (hb hby d8_50) (pc' := 51) rfl ?_
      have hf51 : ¬ (x2 < (0 : Int64)) := hc8
      refine w_ifL_lt X hx (hb hby d8_51) (pf := 54) (pt := 72) rfl (by decide) (by decide) (fun hc => absurd hc hf51) (fun hc51 => ?_)
      refine w_lloadN X hx (hb hby d8_54) (pc' := 55) rfl rfl ?_
      refine w_ldc2 X hx hZ hown (hw _ (List.mem_of_getElem? (i := 53) rfl)) (hb hby d8_55) (pc' := 58) rfl ?_
      refine w_lcmp X hx (hb hby d8_58) (pc' := 59) rfl ?_
      refine w_ifL_gt X hx (hb hby d8_59) (pf := 62) (pt := 72) rfl (by decide) (by decide) (fun hc59 => ?_) (fun hc59 => ?_)
      · refine w_lloadN X hx (hb hby d8_72) (pc' := 73) rfl rfl ?_
        refine w_lconst (v := 0) X hx (hb hby d8_73) (pc' := 74) rfl rfl ?_
        refine w_lcmp X hx (hb hby d8_74) (pc' := 75) rfl ?_
        have hf75 : ¬ (x2 < (0 : Int64)) := hc8
        refine w_ifL_lt X hx (hb hby d8_75) (pf := 78) (pt := 96) rfl (by decide) (by decide) (fun hc => absurd hc hf75) (fun hc75 => ?_)
        refine w_lloadN X hx (hb hby d8_78) (pc' := 79) rfl rfl ?_
        refine w_ldc2 X hx hZ hown (hw _ (List.mem_of_getElem? (i := 54) rfl)) (hb hby d8_79) (pc' := 82) rfl ?_
        refine w_lcmp X hx (hb hby d8_82) (pc' := 83) rfl ?_
        refine w_ifL_gt X hx (hb hby d8_83) (pf := 86) (pt := 96) rfl (by decide) (by decide) (fun hc83 => ?_) (fun hc83 => ?_)
        · refine w_lloadN X hx (hb hby d8_96) (pc' := 97) rfl rfl ?_
          refine w_lconst (v := 0) X hx (hb hby d8_97) (pc' := 98) rfl rfl ?_
          refine w_lcmp X hx (hb hby d8_98) (pc' := 99) rfl ?_
          have hf99 : ¬ (x2 < (0 : Int64)) := hc8
          refine w_ifL_lt X hx (hb hby d8_99) (pf := 102) (pt := 120) rfl (by decide) (by decide) (fun hc => absurd hc hf99) (fun hc99 => ?_)
          refine w_lloadN X hx (hb hby d8_102) (pc' := 103) rfl rfl ?_
          refine w_ldc2 X hx hZ hown (hw _ (List.mem_of_getElem? (i := 55) rfl)) (hb hby d8_103) (pc' := 106) rfl ?_
          refine w_lcmp X hx (hb hby d8_106) (pc' := 107) rfl ?_
          refine w_ifL_gt X hx (hb hby d8_107) (pf := 110) (pt := 120) rfl (by decide) (by decide) (fun hc107 => ?_) (fun hc107 => ?_)
          · refine w_bipush (v := 27) X hx (hb hby d8_120) (pc' := 122) rfl rfl ?_
            refine w_istore (Ls' := #[.val (.ref ob), .val (.int x1), .val (.long x2), .second, .val (.int (x1 <<< ((5 : Int32) &&& 31))), .val (.int (27 : Int32)), .unset, .unset]) X hx (hb hby d8_122) (pc' := 124) rfl rfl ?_
            refine w_bipush (v := 8) X hx (hb hby d8_124) (pc' := 126) rfl rfl ?_
            refine w_istore (Ls' := #[.val (.ref ob), .val (.int x1), .val (.long x2), .second, .val (.int (x1 <<< ((5 : Int32) &&& 31))), .val (.int (27 : Int32)), .val (.int (8 : Int32)), .unset]) X hx (hb hby d8_126) (pc' := 128) rfl rfl ?_
            refine w_aloadN X hx (hb hby d8_128) (pc' := 129) rfl rfl rfl ?_
            refine w_iconst (v := 1) X hx (hb hby d8_129) (pc' := 130) rfl rfl ?_
            refine w_iload X hx (hb hby d8_130) (pc' := 132) rfl rfl ?_
            refine w_iadd X hx (hb hby d8_132) (pc' := 133) rfl ?_
            rw [show ((1 : Int32) + (8 : Int32)) = (9 : Int32) from by decide]
            refine w_callP (argsL := [(.int (9 : Int32))]) (rest := []) (a := ob) X hx hZ hown e0 E_ob (rm9 l Z a0 hw ob (9 : Int32) h0 n0 Z0 ba bs n E_ob g_ob F_buffer F_size V_ba hfit nab hl hn (by decide)) (hw _ (List.mem_of_getElem? (i := 44) rfl)) (hw _ (List.mem_of_getElem? (i := 45) rfl)) (own_selp (hw _ (List.mem_of_getElem? (i := 1) rfl)) (hw _ (List.mem_of_getElem? (i := 46) rfl)) (hw _ (List.mem_of_getElem? (i := 45) rfl)) (by decide)) (hw _ (List.mem_of_getElem? (i := 46) rfl)) (hw _ (List.mem_of_getElem? (i := 2) rfl)) (hw _ (List.mem_of_getElem? (i := 47) rfl)) (by decide) (by decide) (W := 0) (by decide) (by decide) (by decide) (by rw [hml]; rfl) (lenOf pd_1 rfl) (Nat.le_refl _) rfl (hb hby d8_133) (pc' := 136) rfl (fun T48 L48 v48 X48 hQ48 => ?_)
            obtain ⟨rfl, N48q, K48, b48, bs48, Fb48, Fs48, V48, fit48, tk48, ln48, l6248, l3148, nb48, or48⟩ := hQ48
            have zn48 : n0 ≤ T48.heap.size := Nat.le_trans Z0 K48.1
            have KP48 := KP0.trans K48 (allS (Or.inl (by simp)) all0)
            have N48 := Fr.app N0 N48q
            have X48 : Stand p l e ({ frames := 3, cells := 1, slots := 62, locals := 100 } : Room) s m _ below meth c T48 _ 1 62 := X48
            have g_b48 : n0 ≤ b48 := or48.elim (fun q => by rw [q]; exact g_ba) (fun q => Nat.le_trans Z0 q)
            have hin48 : b48 ∈ [ob, ba] ∨ h0.size ≤ b48 := or48.elim (fun q => Or.inl (by rw [q]; simp)) Or.inr
            have ll48 : ((9 : Int32) : Int32).toInt = 9 := by decide
            show Go p e below s 1 62 (own_W Z h0 n0 ob ba n N FIN) T48 (mkF m 136 #[.val (.ref ob), .val (.int x1), .val (.long x2), .second, .val (.int (x1 <<< ((5 : Int32) &&& 31))), .val (.int (27 : Int32)), .val (.int (8 : Int32)), .unset] [])
            refine w_aloadN X48 hx (hb hby d8_136) (pc' := 137) rfl rfl rfl ?_
            refine w_getF X48 hx hZ hown rfl Fb48 (hw _ (List.mem_of_getElem? (i := 14) rfl)) (hb hby d8_137) (pc' := 140) rfl (fun T49 X49 e49 => ?_)
            refine w_aloadN X49 hx (hb hby d8_140) (pc' := 141) rfl rfl rfl ?_
            refine w_dup X49 hx (hb hby d8_141) (pc' := 142) rfl rfl ?_
            refine w_getF X49 hx hZ hown e49 Fs48 (hw _ (List.mem_of_getElem? (i := 21) rfl)) (hb hby d8_142) (pc' := 145) rfl (fun T50 X50 e50 => ?_)
            refine w_dupX1 X50 hx (hb hby d8_145) (pc' := 146) rfl rfl rfl ?_
            refine w_iconst (v := 1) X50 hx (hb hby d8_146) (pc' := 147) rfl rfl ?_
            refine w_iadd X50 hx (hb hby d8_147) (pc' := 148) rfl ?_
            rw [own_iinc (by omega)]
            have f51 := E_ob.keep K48
            refine w_putF X50 hx hZ hown e50 Fs48 f51 (hw _ (List.mem_of_getElem? (i := 21) rfl)) (Or.inl (hw _ (List.mem_of_getElem? (i := 22) rfl))) (hw _ (List.mem_of_getElem? (i := 1) rfl)) (ty := .int) (by decide) rfl rfl (hb hby d8_148) (pc' := 151) rfl (fun T52 h52 X52 e52 W52 => ?_)
            have F52 := Fs48.same W52
            have KP52 := KP48.wr W52 (Or.inl (by simp))
            have N52 := Fr.snoc X52 N48 g_ob
            have zn52 : n0 ≤ h52.size := by rw [W52.size]; exact zn48
            refine w_iload X52 hx (hb hby d8_151) (pc' := 153) rfl rfl ?_
            refine w_iload X52 hx (hb hby d8_153) (pc' := 155) rfl rfl ?_
            refine w_ior X52 hx (hb hby d8_155) (pc' := 156) rfl ?_
            refine w_i2b X52 hx (hb hby d8_156) (pc' := 157) rfl ?_
            have f53 := V48.other W52 nb48
            refine w_bastore X52 hx hZ e52 f53 (own_nneg (by omega)) (by rw [own_nat (by omega)]; omega) (hb hby d8_157) (pc' := 158) rfl (fun T54 h54 X54 e54 W54 V54 => ?_)
            have qv54 : (nar .byte ((x1 <<< ((5 : Int32) &&& 31)) ||| (27 : Int32)).toInt8.toInt32) = ((x1 <<< ((5 : Int32) &&& 31)) ||| (27 : Int32)).toInt8.toInt32 := own_nb _
            rw [qv54] at V54
            have V54 : AI Z h54 b48 .byte (bs48.set n ((x1 <<< ((5 : Int32) &&& 31)) ||| (27 : Int32)).toInt8.toInt32) := by rw [show (n : Nat) = (n.toInt32).toNatClampNeg from (own_nat (by omega)).symm]; exact V54
            have KP54 := KP52.wr W54 hin48
            have N54 := Fr.snoc X54 N52 g_b48
            have zn54 : n0 ≤ h54.size := by rw [W54.size]; exact zn52
            refine w_iload X54 hx (hb hby d8_158) (pc' := 160) rfl rfl ?_
            refine w_iconst (v := 1) X54 hx (hb hby d8_160) (pc' := 161) rfl rfl ?_
            refine w_isub X54 hx (hb hby d8_161) (pc' := 162) rfl ?_
            rw [show ((8 : Int32) - (1 : Int32)) = (7 : Int32) from by decide]
            refine w_bipush (v := 8) X54 hx (hb hby d8_162) (pc' := 164) rfl rfl ?_
            refine w_imul X54 hx (hb hby d8_164) (pc' := 165) rfl ?_
            rw [show ((7 : Int32) * (8 : Int32)) = (56 : Int32) from by decide]
            refine w_istore (Ls' := #[.val (.ref ob), .val (.int x1), .val (.long x2), .second, .val (.int (x1 <<< ((5 : Int32) &&& 31))), .val (.int (27 : Int32)), .val (.int (8 : Int32)), .val (.int (56 : Int32))]) X54 hx (hb hby d8_165) (pc' := 167) rfl rfl ?_
            have f55 := f51.wr W52
            have f56 := f55.wr W54
            have f57 := Fb48.other W52 (Or.inr (slot_ne (Or.inl (hw _ (List.mem_of_getElem? (i := 15) rfl))) (Or.inl (hw _ (List.mem_of_getElem? (i := 22) rfl))) (by decide) (t := (.array .byte)) (t' := .int) (by decide) (by decide)))
            have f58 := f57.other W54 (Or.inl (Ne.symm nb48))
            have f59 := F52.other W54 (Or.inl (Ne.symm nb48))
            have hH : own_hd x1 x2 = own_l x1 (27 : Int32) x2 8 := by rw [own_hd, if_neg hc8, if_neg hc16, if_pos hc59, if_pos hc83, if_pos hc107]
            have hN' : N = n + 1 + 8 := by have hll := own_l_len x1 (27 : Int32) x2 8; rw [hN, hH]; omega
            exact lw hx hZ hw hby hml hown hret hlk x1 (x1 <<< ((5 : Int32) &&& 31)) (27 : Int32) (8 : Int32) x2 ob ba b48 n N FIN g_ob g_b48 nb48 hin48 or48 8 _ _ _ (n + 1) _ (56 : Int32) X54 e54 N54 zn54 KP54 f56 f58 f59 V54 (own_fitset fit48 (own_fitb _)) (by decide) (by decide) (by omega) (by rw [List.length_set]; omega) (by rw [List.length_set]; omega) (by rw [List.length_set]; exact l3148) (by rw [own_take1 (by omega), tk48, hF, hH, List.append_assoc]; rfl)
          · refine w_bipush (v := 26) X hx (hb hby d8_110) (pc' := 112) rfl rfl ?_
            refine w_istore (Ls' := #[.val (.ref ob), .val (.int x1), .val (.long x2), .second, .val (.int (x1 <<< ((5 : Int32) &&& 31))), .val (.int (26 : Int32)), .unset, .unset]) X hx (hb hby d8_112) (pc' := 114) rfl rfl ?_
            refine w_iconst (v := 4) X hx (hb hby d8_114) (pc' := 115) rfl rfl ?_
            refine w_istore (Ls' := #[.val (.ref ob), .val (.int x1), .val (.long x2), .second, .val (.int (x1 <<< ((5 : Int32) &&& 31))), .val (.int (26 : Int32)), .val (.int (4 : Int32)), .unset]) X hx (hb hby d8_115) (pc' := 117) rfl rfl ?_
            refine w_goto X hx (hb hby d8_117) (pc' := 128) (by decide) (by decide) ?_
            refine w_aloadN X hx (hb hby d8_128) (pc' := 129) rfl rfl rfl ?_
            refine w_iconst (v := 1) X hx (hb hby d8_129) (pc' := 130) rfl rfl ?_
            refine w_iload X hx (hb hby d8_130) (pc' := 132) rfl rfl ?_
            refine w_iadd X hx (hb hby d8_132) (pc' := 133) rfl ?_
            rw [show ((1 : Int32) + (4 : Int32)) = (5 : Int32) from by decide]
            refine w_callP (argsL := [(.int (5 : Int32))]) (rest := []) (a := ob) X hx hZ hown e0 E_ob (rm9 l Z a0 hw ob (5 : Int32) h0 n0 Z0 ba bs n E_ob g_ob F_buffer F_size V_ba hfit nab hl hn (by decide)) (hw _ (List.mem_of_getElem? (i := 44) rfl)) (hw _ (List.mem_of_getElem? (i := 45) rfl)) (own_selp (hw _ (List.mem_of_getElem? (i := 1) rfl)) (hw _ (List.mem_of_getElem? (i := 46) rfl)) (hw _ (List.mem_of_getElem? (i := 45) rfl)) (by decide)) (hw _ (List.mem_of_getElem? (i := 46) rfl)) (hw _ (List.mem_of_getElem? (i := 2) rfl)) (hw _ (List.mem_of_getElem? (i := 47) rfl)) (by decide) (by decide) (W := 0) (by decide) (by decide) (by decide) (by rw [hml]; rfl) (lenOf pd_1 rfl) (Nat.le_refl _) rfl (hb hby d8_133) (pc' := 136) rfl (fun T60 L60 v60 X60 hQ60 => ?_)
            obtain ⟨rfl, N60q, K60, b60, bs60, Fb60, Fs60, V60, fit60, tk60, ln60, l6260, l3160, nb60, or60⟩ := hQ60
            have zn60 : n0 ≤ T60.heap.size := Nat.le_trans Z0 K60.1
            have KP60 := KP0.trans K60 (allS (Or.inl (by simp)) all0)
            have N60 := Fr.app N0 N60q
            have X60 : Stand p l e ({ frames := 3, cells := 1, slots := 62, locals := 100 } : Room) s m _ below meth c T60 _ 1 62 := X60
            have g_b60 : n0 ≤ b60 := or60.elim (fun q => by rw [q]; exact g_ba) (fun q => Nat.le_trans Z0 q)
            have hin60 : b60 ∈ [ob, ba] ∨ h0.size ≤ b60 := or60.elim (fun q => Or.inl (by rw [q]; simp)) Or.inr
            have ll60 : ((5 : Int32) : Int32).toInt = 5 := by decide
            show Go p e below s 1 62 (own_W Z h0 n0 ob ba n N FIN) T60 (mkF m 136 #[.val (.ref ob), .val (.int x1), .val (.long x2), .second, .val (.int (x1 <<< ((5 : Int32) &&& 31))), .val (.int (26 : Int32)), .val (.int (4 : Int32)), .unset] [])
            refine w_aloadN X60 hx (hb hby d8_136) (pc' := 137) rfl rfl rfl ?_
            refine w_getF X60 hx hZ hown rfl Fb60 (hw _ (List.mem_of_getElem? (i := 14) rfl)) (hb hby d8_137) (pc' := 140) rfl (fun T61 X61 e61 => ?_)
            refine w_aloadN X61 hx (hb hby d8_140) (pc' := 141) rfl rfl rfl ?_
            refine w_dup X61 hx (hb hby d8_141) (pc' := 142) rfl rfl ?_
            refine w_getF X61 hx hZ hown e61 Fs60 (hw _ (List.mem_of_getElem? (i := 21) rfl)) (hb hby d8_142) (pc' := 145) rfl (fun T62 X62 e62 => ?_)
            refine w_dupX1 X62 hx (hb hby d8_145) (pc' := 146) rfl rfl rfl ?_
            refine w_iconst (v := 1) X62 hx (hb hby d8_146) (pc' := 147) rfl rfl ?_
            refine w_iadd X62 hx (hb hby d8_147) (pc' := 148) rfl ?_
            rw [own_iinc (by omega)]
            have f63 := E_ob.keep K60
            refine w_putF X62 hx hZ hown e62 Fs60 f63 (hw _ (List.mem_of_getElem? (i := 21) rfl)) (Or.inl (hw _ (List.mem_of_getElem? (i := 22) rfl))) (hw _ (List.mem_of_getElem? (i := 1) rfl)) (ty := .int) (by decide) rfl rfl (hb hby d8_148) (pc' := 151) rfl (fun T64 h64 X64 e64 W64 => ?_)
            have F64 := Fs60.same W64
            have KP64 := KP60.wr W64 (Or.inl (by simp))
            have N64 := Fr.snoc X64 N60 g_ob
            have zn64 : n0 ≤ h64.size := by rw [W64.size]; exact zn60
            refine w_iload X64 hx (hb hby d8_151) (pc' := 153) rfl rfl ?_
            refine w_iload X64 hx (hb hby d8_153) (pc' := 155) rfl rfl ?_
            refine w_ior X64 hx (hb hby d8_155) (pc' := 156) rfl ?_
            refine w_i2b X64 hx (hb hby d8_156) (pc' := 157) rfl ?_
            have f65 := V60.other W64 nb60
            refine w_bastore X64 hx hZ e64 f65 (own_nneg (by omega)) (by rw [own_nat (by omega)]; omega) (hb hby d8_157) (pc' := 158) rfl (fun T66 h66 X66 e66 W66 V66 => ?_)
            have qv66 : (nar .byte ((x1 <<< ((5 : Int32) &&& 31)) ||| (26 : Int32)).toInt8.toInt32) = ((x1 <<< ((5 : Int32) &&& 31)) ||| (26 : Int32)).toInt8.toInt32 := own_nb _
            rw [qv66] at V66
            have V66 : AI Z h66 b60 .byte (bs60.set n ((x1 <<< ((5 : Int32) &&& 31)) ||| (26 : Int32)).toInt8.toInt32) := by rw [show (n : Nat) = (n.toInt32).toNatClampNeg from (own_nat (by omega)).symm]; exact V66
            have KP66 := KP64.wr W66 hin60
            have N66 := Fr.snoc X66 N64 g_b60
            have zn66 : n0 ≤ h66.size := by rw [W66.size]; exact zn64
            refine w_iload X66 hx (hb hby d8_158) (pc' := 160) rfl rfl ?_
            refine w_iconst (v := 1) X66 hx (hb hby d8_160) (pc' := 161) rfl rfl ?_
            refine w_isub X66 hx (hb hby d8_161) (pc' := 162) rfl ?_
            rw [show ((4 : Int32) - (1 : Int32)) = (3 : Int32) from by decide]
            refine w_bipush (v := 8) X66 hx (hb hby d8_162) (pc' := 164) rfl rfl ?_
            refine w_imul X66 hx (hb hby d8_164) (pc' := 165) rfl ?_
            rw [show ((3 : Int32) * (8 : Int32)) = (24 : Int32) from by decide]
            refine w_istore (Ls' := #[.val (.ref ob), .val (.int x1), .val (.long x2), .second, .val (.int (x1 <<< ((5 : Int32) &&& 31))), .val (.int (26 : Int32)), .val (.int (4 : Int32)), .val (.int (24 : Int32))]) X66 hx (hb hby d8_165) (pc' := 167) rfl rfl ?_
            have f67 := f63.wr W64
            have f68 := f67.wr W66
            have f69 := Fb60.other W64 (Or.inr (slot_ne (Or.inl (hw _ (List.mem_of_getElem? (i := 15) rfl))) (Or.inl (hw _ (List.mem_of_getElem? (i := 22) rfl))) (by decide) (t := (.array .byte)) (t' := .int) (by decide) (by decide)))
            have f70 := f69.other W66 (Or.inl (Ne.symm nb60))
            have f71 := F64.other W66 (Or.inl (Ne.symm nb60))
            have hH : own_hd x1 x2 = own_l x1 (26 : Int32) x2 4 := by rw [own_hd, if_neg hc8, if_neg hc16, if_pos hc59, if_pos hc83, if_neg hc107]
            have hN' : N = n + 1 + 4 := by have hll := own_l_len x1 (26 : Int32) x2 4; rw [hN, hH]; omega
            exact lw hx hZ hw hby hml hown hret hlk x1 (x1 <<< ((5 : Int32) &&& 31)) (26 : Int32) (4 : Int32) x2 ob ba b60 n N FIN g_ob g_b60 nb60 hin60 or60 4 _ _ _ (n + 1) _ (24 : Int32) X66 e66 N66 zn66 KP66 f68 f70 f71 V66 (own_fitset fit60 (own_fitb _)) (by decide) (by decide) (by omega) (by rw [List.length_set]; omega) (by rw [List.length_set]; omega) (by rw [List.length_set]; exact l3160) (by rw [own_take1 (by omega), tk60, hF, hH, List.append_assoc]; rfl)
        · refine w_bipush (v := 25) X hx (hb hby d8_86) (pc' := 88) rfl rfl ?_
          refine w_istore (Ls' := #[.val (.ref ob), .val (.int x1), .val (.long x2), .second, .val (.int (x1 <<< ((5 : Int32) &&& 31))), .val (.int (25 : Int32)), .unset, .unset]) X hx (hb hby d8_88) (pc' := 90) rfl rfl ?_
          refine w_iconst (v := 2) X hx (hb hby d8_90) (pc' := 91) rfl rfl ?_
          refine w_istore (Ls' := #[.val (.ref ob), .val (.int x1), .val (.long x2), .second, .val (.int (x1 <<< ((5 : Int32) &&& 31))), .val (.int (25 : Int32)), .val (.int (2 : Int32)), .unset]) X hx (hb hby d8_91) (pc' := 93) rfl rfl ?_
          refine w_goto X hx (hb hby d8_93) (pc' := 128) (by decide) (by decide) ?_
          refine w_aloadN X hx (hb hby d8_128) (pc' := 129) rfl rfl rfl ?_
          refine w_iconst (v := 1) X hx (hb hby d8_129) (pc' := 130) rfl rfl ?_
          refine w_iload X hx (hb hby d8_130) (pc' := 132) rfl rfl ?_
          refine w_iadd X hx (hb hby d8_132) (pc' := 133) rfl ?_
          rw [show ((1 : Int32) + (2 : Int32)) = (3 : Int32) from by decide]
          refine w_callP (argsL := [(.int (3 : Int32))]) (rest := []) (a := ob) X hx hZ hown e0 E_ob (rm9 l Z a0 hw ob (3 : Int32) h0 n0 Z0 ba bs n E_ob g_ob F_buffer F_size V_ba hfit nab hl hn (by decide)) (hw _ (List.mem_of_getElem? (i := 44) rfl)) (hw _ (List.mem_of_getElem? (i := 45) rfl)) (own_selp (hw _ (List.mem_of_getElem? (i := 1) rfl)) (hw _ (List.mem_of_getElem? (i := 46) rfl)) (hw _ (List.mem_of_getElem? (i := 45) rfl)) (by decide)) (hw _ (List.mem_of_getElem? (i := 46) rfl)) (hw _ (List.mem_of_getElem? (i := 2) rfl)) (hw _ (List.mem_of_getElem? (i := 47) rfl)) (by decide) (by decide) (W := 0) (by decide) (by decide) (by decide) (by rw [hml]; rfl) (lenOf pd_1 rfl) (Nat.le_refl _) rfl (hb hby d8_133) (pc' := 136) rfl (fun T72 L72 v72 X72 hQ72 => ?_)
          obtain ⟨rfl, N72q, K72, b72, bs72, Fb72, Fs72, V72, fit72, tk72, ln72, l6272, l3172, nb72, or72⟩ := hQ72
          have zn72 : n0 ≤ T72.heap.size := Nat.le_trans Z0 K72.1
          have KP72 := KP0.trans K72 (allS (Or.inl (by simp)) all0)
          have N72 := Fr.app N0 N72q
          have X72 : Stand p l e ({ frames := 3, cells := 1, slots := 62, locals := 100 } : Room) s m _ below meth c T72 _ 1 62 := X72
          have g_b72 : n0 ≤ b72 := or72.elim (fun q => by rw [q]; exact g_ba) (fun q => Nat.le_trans Z0 q)
          have hin72 : b72 ∈ [ob, ba] ∨ h0.size ≤ b72 := or72.elim (fun q => Or.inl (by rw [q]; simp)) Or.inr
          have ll72 : ((3 : Int32) : Int32).toInt = 3 := by decide
          show Go p e below s 1 62 (own_W Z h0 n0 ob ba n N FIN) T72 (mkF m 136 #[.val (.ref ob), .val (.int x1), .val (.long x2), .second, .val (.int (x1 <<< ((5 : Int32) &&& 31))), .val (.int (25 : Int32)), .val (.int (2 : Int32)), .unset] [])
          refine w_aloadN X72 hx (hb hby d8_136) (pc' := 137) rfl rfl rfl ?_
          refine w_getF X72 hx hZ hown rfl Fb72 (hw _ (List.mem_of_getElem? (i := 14) rfl)) (hb hby d8_137) (pc' := 140) rfl (fun T73 X73 e73 => ?_)
          refine w_aloadN X73 hx (hb hby d8_140) (pc' := 141) rfl rfl rfl ?_
          refine w_dup X73 hx (hb hby d8_141) (pc' := 142) rfl rfl ?_
          refine w_getF X73 hx hZ hown e73 Fs72 (hw _ (List.mem_of_getElem? (i := 21) rfl)) (hb hby d8_142) (pc' := 145) rfl (fun T74 X74 e74 => ?_)
          refine w_dupX1 X74 hx (hb hby d8_145) (pc' := 146) rfl rfl rfl ?_
          refine w_iconst (v := 1) X74 hx (hb hby d8_146) (pc' := 147) rfl rfl ?_
          refine w_iadd X74 hx (hb hby d8_147) (pc' := 148) rfl ?_
          rw [own_iinc (by omega)]
          have f75 := E_ob.keep K72
          refine w_putF X74 hx hZ hown e74 Fs72 f75 (hw _ (List.mem_of_getElem? (i := 21) rfl)) (Or.inl (hw _ (List.mem_of_getElem? (i := 22) rfl))) (hw _ (List.mem_of_getElem? (i := 1) rfl)) (ty := .int) (by decide) rfl rfl (hb hby d8_148) (pc' := 151) rfl (fun T76 h76 X76 e76 W76 => ?_)
          have F76 := Fs72.same W76
          have KP76 := KP72.wr W76 (Or.inl (by simp))
          have N76 := Fr.snoc X76 N72 g_ob
          have zn76 : n0 ≤ h76.size := by rw [W76.size]; exact zn72
          refine w_iload X76 hx (hb hby d8_151) (pc' := 153) rfl rfl ?_
          refine w_iload X76 hx (hb hby d8_153) (pc' := 155) rfl rfl ?_
          refine w_ior X76 hx (hb hby d8_155) (pc' := 156) rfl ?_
          refine w_i2b X76 hx (hb hby d8_156) (pc' := 157) rfl ?_
          have f77 := V72.other W76 nb72
          refine w_bastore X76 hx hZ e76 f77 (own_nneg (by omega)) (by rw [own_nat (by omega)]; omega) (hb hby d8_157) (pc' := 158) rfl (fun T78 h78 X78 e78 W78 V78 => ?_)
          have qv78 : (nar .byte ((x1 <<< ((5 : Int32) &&& 31)) ||| (25 : Int32)).toInt8.toInt32) = ((x1 <<< ((5 : Int32) &&& 31)) ||| (25 : Int32)).toInt8.toInt32 := own_nb _
          rw [qv78] at V78
          have V78 : AI Z h78 b72 .byte (bs72.set n ((x1 <<< ((5 : Int32) &&& 31)) ||| (25 : Int32)).toInt8.toInt32) := by rw [show (n : Nat) = (n.toInt32).toNatClampNeg from (own_nat (by omega)).symm]; exact V78
          have KP78 := KP76.wr W78 hin72
          have N78 := Fr.snoc X78 N76 g_b72
          have zn78 : n0 ≤ h78.size := by rw [W78.size]; exact zn76
          refine w_iload X78 hx (hb hby d8_158) (pc' := 160) rfl rfl ?_
          refine w_iconst (v := 1) X78 hx (hb hby d8_160) (pc' := 161) rfl rfl ?_
          refine w_isub X78 hx (hb hby d8_161) (pc' := 162) rfl ?_
          rw [show ((2 : Int32) - (1 : Int32)) = (1 : Int32) from by decide]
          refine w_bipush (v := 8) X78 hx (hb hby d8_162) (pc' := 164) rfl rfl ?_
          refine w_imul X78 hx (hb hby d8_164) (pc' := 165) rfl ?_
          rw [show ((1 : Int32) * (8 : Int32)) = (8 : Int32) from by decide]
          refine w_istore (Ls' := #[.val (.ref ob), .val (.int x1), .val (.long x2), .second, .val (.int (x1 <<< ((5 : Int32) &&& 31))), .val (.int (25 : Int32)), .val (.int (2 : Int32)), .val (.int (8 : Int32))]) X78 hx (hb hby d8_165) (pc' := 167) rfl rfl ?_
          have f79 := f75.wr W76
          have f80 := f79.wr W78
          have f81 := Fb72.other W76 (Or.inr (slot_ne (Or.inl (hw _ (List.mem_of_getElem? (i := 15) rfl))) (Or.inl (hw _ (List.mem_of_getElem? (i := 22) rfl))) (by decide) (t := (.array .byte)) (t' := .int) (by decide) (by decide)))
          have f82 := f81.other W78 (Or.inl (Ne.symm nb72))
          have f83 := F76.other W78 (Or.inl (Ne.symm nb72))
          have hH : own_hd x1 x2 = own_l x1 (25 : Int32) x2 2 := by rw [own_hd, if_neg hc8, if_neg hc16, if_pos hc59, if_neg hc83]
          have hN' : N = n + 1 + 2 := by have hll := own_l_len x1 (25 : Int32) x2 2; rw [hN, hH]; omega
          exact lw hx hZ hw hby hml hown hret hlk x1 (x1 <<< ((5 : Int32) &&& 31)) (25 : Int32) (2 : Int32) x2 ob ba b72 n N FIN g_ob g_b72 nb72 hin72 or72 2 _ _ _ (n + 1) _ (8 : Int32) X78 e78 N78 zn78 KP78 f80 f82 f83 V78 (own_fitset fit72 (own_fitb _)) (by decide) (by decide) (by omega) (by rw [List.length_set]; omega) (by rw [List.length_set]; omega) (by rw [List.length_set]; exact l3172) (by rw [own_take1 (by omega), tk72, hF, hH, List.append_assoc]; rfl)
      · refine w_bipush (v := 24) X hx (hb hby d8_62) (pc' := 64) rfl rfl ?_
        refine w_istore (Ls' := #[.val (.ref ob), .val (.int x1), .val (.long x2), .second, .val (.int (x1 <<< ((5 : Int32) &&& 31))), .val (.int (24 : Int32)), .unset, .unset]) X hx (hb hby d8_64) (pc' := 66) rfl rfl ?_
        refine w_iconst (v := 1) X hx (hb hby d8_66) (pc' := 67) rfl rfl ?_
        refine w_istore (Ls' := #[.val (.ref ob), .val (.int x1), .val (.long x2), .second, .val (.int (x1 <<< ((5 : Int32) &&& 31))), .val (.int (24 : Int32)), .val (.int (1 : Int32)), .unset]) X hx (hb hby d8_67) (pc' := 69) rfl rfl ?_
        refine w_goto X hx (hb hby d8_69) (pc' := 128) (by decide) (by decide) ?_
        refine w_aloadN X hx (hb hby d8_128) (pc' := 129) rfl rfl rfl ?_
        refine w_iconst (v := 1) X hx (hb hby d8_129) (pc' := 130) rfl rfl ?_
        refine w_iload X hx (hb hby d8_130) (pc' := 132) rfl rfl ?_
        refine w_iadd X hx (hb hby d8_132) (pc' := 133) rfl ?_
        rw [show ((1 : Int32) + (1 : Int32)) = (2 : Int32) from by decide]
        refine w_callP (argsL := [(.int (2 : Int32))]) (rest := []) (a := ob) X hx hZ hown e0 E_ob (rm9 l Z a0 hw ob (2 : Int32) h0 n0 Z0 ba bs n E_ob g_ob F_buffer F_size V_ba hfit nab hl hn (by decide)) (hw _ (List.mem_of_getElem? (i := 44) rfl)) (hw _ (List.mem_of_getElem? (i := 45) rfl)) (own_selp (hw _ (List.mem_of_getElem? (i := 1) rfl)) (hw _ (List.mem_of_getElem? (i := 46) rfl)) (hw _ (List.mem_of_getElem? (i := 45) rfl)) (by decide)) (hw _ (List.mem_of_getElem? (i := 46) rfl)) (hw _ (List.mem_of_getElem? (i := 2) rfl)) (hw _ (List.mem_of_getElem? (i := 47) rfl)) (by decide) (by decide) (W := 0) (by decide) (by decide) (by decide) (by rw [hml]; rfl) (lenOf pd_1 rfl) (Nat.le_refl _) rfl (hb hby d8_133) (pc' := 136) rfl (fun T84 L84 v84 X84 hQ84 => ?_)
        obtain ⟨rfl, N84q, K84, b84, bs84, Fb84, Fs84, V84, fit84, tk84, ln84, l6284, l3184, nb84, or84⟩ := hQ84
        have zn84 : n0 ≤ T84.heap.size := Nat.le_trans Z0 K84.1
        have KP84 := KP0.trans K84 (allS (Or.inl (by simp)) all0)
        have N84 := Fr.app N0 N84q
        have X84 : Stand p l e ({ frames := 3, cells := 1, slots := 62, locals := 100 } : Room) s m _ below meth c T84 _ 1 62 := X84
        have g_b84 : n0 ≤ b84 := or84.elim (fun q => by rw [q]; exact g_ba) (fun q => Nat.le_trans Z0 q)
        have hin84 : b84 ∈ [ob, ba] ∨ h0.size ≤ b84 := or84.elim (fun q => Or.inl (by rw [q]; simp)) Or.inr
        have ll84 : ((2 : Int32) : Int32).toInt = 2 := by decide
        show Go p e below s 1 62 (own_W Z h0 n0 ob ba n N FIN) T84 (mkF m 136 #[.val (.ref ob), .val (.int x1), .val (.long x2), .second, .val (.int (x1 <<< ((5 : Int32) &&& 31))), .val (.int (24 : Int32)), .val (.int (1 : Int32)), .unset] [])
        refine w_aloadN X84 hx (hb hby d8_136) (pc' := 137) rfl rfl rfl ?_
        refine w_getF X84 hx hZ hown rfl Fb84 (hw _ (List.mem_of_getElem? (i := 14) rfl)) (hb hby d8_137) (pc' := 140) rfl (fun T85 X85 e85 => ?_)
        refine w_aloadN X85 hx (hb hby d8_140) (pc' := 141) rfl rfl rfl ?_
        refine w_dup X85 hx (hb hby d8_141) (pc' := 142) rfl rfl ?_
        refine w_getF X85 hx hZ hown e85 Fs84 (hw _ (List.mem_of_getElem? (i := 21) rfl)) (hb hby d8_142) (pc' := 145) rfl (fun T86 X86 e86 => ?_)
        refine w_dupX1 X86 hx (hb hby d8_145) (pc' := 146) rfl rfl rfl ?_
        refine w_iconst (v := 1) X86 hx (hb hby d8_146) (pc' := 147) rfl rfl ?_
        refine w_iadd X86 hx (hb hby d8_147) (pc' := 148) rfl ?_
        rw [own_iinc (by omega)]
        have f87 := E_ob.keep K84
        refine w_putF X86 hx hZ hown e86 Fs84 f87 (hw _ (List.mem_of_getElem? (i := 21) rfl)) (Or.inl (hw _ (List.mem_of_getElem? (i := 22) rfl))) (hw _ (List.mem_of_getElem? (i := 1) rfl)) (ty := .int) (by decide) rfl rfl (hb hby d8_148) (pc' := 151) rfl (fun T88 h88 X88 e88 W88 => ?_)
        have F88 := Fs84.same W88
        have KP88 := KP84.wr W88 (Or.inl (by simp))
        have N88 := Fr.snoc X88 N84 g_ob
        have zn88 : n0 ≤ h88.size := by rw [W88.size]; exact zn84
        refine w_iload X88 hx (hb hby d8_151) (pc' := 153) rfl rfl ?_
        refine w_iload X88 hx (hb hby d8_153) (pc' := 155) rfl rfl ?_
        refine w_ior X88 hx (hb hby d8_155) (pc' := 156) rfl ?_
        refine w_i2b X88 hx (hb hby d8_156) (pc' := 157) rfl ?_
        have f89 := V84.other W88 nb84
        refine w_bastore X88 hx hZ e88 f89 (own_nneg (by omega)) (by rw [own_nat (by omega)]; omega) (hb hby d8_157) (pc' := 158) rfl (fun T90 h90 X90 e90 W90 V90 => ?_)
        have qv90 : (nar .byte ((x1 <<< ((5 : Int32) &&& 31)) ||| (24 : Int32)).toInt8.toInt32) = ((x1 <<< ((5 : Int32) &&& 31)) ||| (24 : Int32)).toInt8.toInt32 := own_nb _
        rw [qv90] at V90
        have V90 : AI Z h90 b84 .byte (bs84.set n ((x1 <<< ((5 : Int32) &&& 31)) ||| (24 : Int32)).toInt8.toInt32) := by rw [show (n : Nat) = (n.toInt32).toNatClampNeg from (own_nat (by omega)).symm]; exact V90
        have KP90 := KP88.wr W90 hin84
        have N90 := Fr.snoc X90 N88 g_b84
        have zn90 : n0 ≤ h90.size := by rw [W90.size]; exact zn88
        refine w_iload X90 hx (hb hby d8_158) (pc' := 160) rfl rfl ?_
        refine w_iconst (v := 1) X90 hx (hb hby d8_160) (pc' := 161) rfl rfl ?_
        refine w_isub X90 hx (hb hby d8_161) (pc' := 162) rfl ?_
        rw [show ((1 : Int32) - (1 : Int32)) = (0 : Int32) from by decide]
        refine w_bipush (v := 8) X90 hx (hb hby d8_162) (pc' := 164) rfl rfl ?_
        refine w_imul X90 hx (hb hby d8_164) (pc' := 165) rfl ?_
        rw [show ((0 : Int32) * (8 : Int32)) = (0 : Int32) from by decide]
        refine w_istore (Ls' := #[.val (.ref ob), .val (.int x1), .val (.long x2), .second, .val (.int (x1 <<< ((5 : Int32) &&& 31))), .val (.int (24 : Int32)), .val (.int (1 : Int32)), .val (.int (0 : Int32))]) X90 hx (hb hby d8_165) (pc' := 167) rfl rfl ?_
        have f91 := f87.wr W88
        have f92 := f91.wr W90
        have f93 := Fb84.other W88 (Or.inr (slot_ne (Or.inl (hw _ (List.mem_of_getElem? (i := 15) rfl))) (Or.inl (hw _ (List.mem_of_getElem? (i := 22) rfl))) (by decide) (t := (.array .byte)) (t' := .int) (by decide) (by decide)))
        have f94 := f93.other W90 (Or.inl (Ne.symm nb84))
        have f95 := F88.other W90 (Or.inl (Ne.symm nb84))
        have hH : own_hd x1 x2 = own_l x1 (24 : Int32) x2 1 := by rw [own_hd, if_neg hc8, if_neg hc16, if_neg hc59]
        have hN' : N = n + 1 + 1 := by have hll := own_l_len x1 (24 : Int32) x2 1; rw [hN, hH]; omega
        exact lw hx hZ hw hby hml hown hret hlk x1 (x1 <<< ((5 : Int32) &&& 31)) (24 : Int32) (1 : Int32) x2 ob ba b84 n N FIN g_ob g_b84 nb84 hin84 or84 1 _ _ _ (n + 1) _ (0 : Int32) X90 e90 N90 zn90 KP90 f92 f94 f95 V90 (own_fitset fit84 (own_fitb _)) (by decide) (by decide) (by omega) (by rw [List.length_set]; omega) (by rw [List.length_set]; omega) (by rw [List.length_set]; exact l3184) (by rw [own_take1 (by omega), tk84, hF, hH, List.append_assoc]; rfl)
    · refine w_aloadN X hx (hb hby d8_19) (pc' := 20) rfl rfl rfl ?_
      refine w_iconst (v := 1) X hx (hb hby d8_20) (pc' := 21) rfl rfl ?_
      refine w_callP (argsL := [(.int (1 : Int32))]) (rest := []) (a := ob) X hx hZ hown e0 E_ob (rm9 l Z a0 hw ob (1 : Int32) h0 n0 Z0 ba bs n E_ob g_ob F_buffer F_size V_ba hfit nab hl hn (by decide)) (hw _ (List.mem_of_getElem? (i := 44) rfl)) (hw _ (List.mem_of_getElem? (i := 45) rfl)) (own_selp (hw _ (List.mem_of_getElem? (i := 1) rfl)) (hw _ (List.mem_of_getElem? (i := 46) rfl)) (hw _ (List.mem_of_getElem? (i := 45) rfl)) (by decide)) (hw _ (List.mem_of_getElem? (i := 46) rfl)) (hw _ (List.mem_of_getElem? (i := 2) rfl)) (hw _ (List.mem_of_getElem? (i := 47) rfl)) (by decide) (by decide) (W := 0) (by decide) (by decide) (by decide) (by rw [hml]; rfl) (lenOf pd_1 rfl) (Nat.le_refl _) rfl (hb hby d8_21) (pc' := 24) rfl (fun T96 L96 v96 X96 hQ96 => ?_)
      obtain ⟨rfl, N96q, K96, b96, bs96, Fb96, Fs96, V96, fit96, tk96, ln96, l6296, l3196, nb96, or96⟩ := hQ96
      have zn96 : n0 ≤ T96.heap.size := Nat.le_trans Z0 K96.1
      have KP96 := KP0.trans K96 (allS (Or.inl (by simp)) all0)
      have N96 := Fr.app N0 N96q
      have X96 : Stand p l e ({ frames := 3, cells := 1, slots := 62, locals := 100 } : Room) s m _ below meth c T96 _ 1 62 := X96
      have g_b96 : n0 ≤ b96 := or96.elim (fun q => by rw [q]; exact g_ba) (fun q => Nat.le_trans Z0 q)
      have hin96 : b96 ∈ [ob, ba] ∨ h0.size ≤ b96 := or96.elim (fun q => Or.inl (by rw [q]; simp)) Or.inr
      have ll96 : ((1 : Int32) : Int32).toInt = 1 := by decide
      show Go p e below s 1 62 (own_W Z h0 n0 ob ba n N FIN) T96 (mkF m 24 #[.val (.ref ob), .val (.int x1), .val (.long x2), .second, .val (.int (x1 <<< ((5 : Int32) &&& 31))), .unset, .unset, .unset] [])
      refine w_aloadN X96 hx (hb hby d8_24) (pc' := 25) rfl rfl rfl ?_
      refine w_getF X96 hx hZ hown rfl Fb96 (hw _ (List.mem_of_getElem? (i := 14) rfl)) (hb hby d8_25) (pc' := 28) rfl (fun T97 X97 e97 => ?_)
      refine w_aloadN X97 hx (hb hby d8_28) (pc' := 29) rfl rfl rfl ?_
      refine w_dup X97 hx (hb hby d8_29) (pc' := 30) rfl rfl ?_
      refine w_getF X97 hx hZ hown e97 Fs96 (hw _ (List.mem_of_getElem? (i := 21) rfl)) (hb hby d8_30) (pc' := 33) rfl (fun T98 X98 e98 => ?_)
      refine w_dupX1 X98 hx (hb hby d8_33) (pc' := 34) rfl rfl rfl ?_
      refine w_iconst (v := 1) X98 hx (hb hby d8_34) (pc' := 35) rfl rfl ?_
      refine w_iadd X98 hx (hb hby d8_35) (pc' := 36) rfl ?_
      rw [own_iinc (by omega)]
      have f99 := E_ob.keep K96
      refine w_putF X98 hx hZ hown e98 Fs96 f99 (hw _ (List.mem_of_getElem? (i := 21) rfl)) (Or.inl (hw _ (List.mem_of_getElem? (i := 22) rfl))) (hw _ (List.mem_of_getElem? (i := 1) rfl)) (ty := .int) (by decide) rfl rfl (hb hby d8_36) (pc' := 39) rfl (fun T100 h100 X100 e100 W100 => ?_)
      have F100 := Fs96.same W100
      have KP100 := KP96.wr W100 (Or.inl (by simp))
      have N100 := Fr.snoc X100 N96 g_ob
      have zn100 : n0 ≤ h100.size := by rw [W100.size]; exact zn96
      refine w_iload X100 hx (hb hby d8_39) (pc' := 41) rfl rfl ?_
      refine w_i2l X100 hx (hb hby d8_41) (pc' := 42) rfl ?_
      refine w_lloadN X100 hx (hb hby d8_42) (pc' := 43) rfl rfl ?_
      refine w_lor X100 hx (hb hby d8_43) (pc' := 44) rfl ?_
      refine w_l2i X100 hx (hb hby d8_44) (pc' := 45) rfl ?_
      refine w_i2b X100 hx (hb hby d8_45) (pc' := 46) rfl ?_
      have f101 := V96.other W100 nb96
      refine w_bastore X100 hx hZ e100 f101 (own_nneg (by omega)) (by rw [own_nat (by omega)]; omega) (hb hby d8_46) (pc' := 47) rfl (fun T102 h102 X102 e102 W102 V102 => ?_)
      have qv102 : (nar .byte ((x1 <<< ((5 : Int32) &&& 31)).toInt64 ||| x2).toInt32.toInt8.toInt32) = ((x1 <<< ((5 : Int32) &&& 31)).toInt64 ||| x2).toInt32.toInt8.toInt32 := own_nb _
      rw [qv102] at V102
      have V102 : AI Z h102 b96 .byte (bs96.set n ((x1 <<< ((5 : Int32) &&& 31)).toInt64 ||| x2).toInt32.toInt8.toInt32) := by rw [show (n : Nat) = (n.toInt32).toNatClampNeg from (own_nat (by omega)).symm]; exact V102
      have KP102 := KP100.wr W102 hin96
      have N102 := Fr.snoc X102 N100 g_b96
      have zn102 : n0 ≤ h102.size := by rw [W102.size]; exact zn100
      have f103 := Fb96.other W100 (Or.inr (slot_ne (Or.inl (hw _ (List.mem_of_getElem? (i := 15) rfl))) (Or.inl (hw _ (List.mem_of_getElem? (i := 22) rfl))) (by decide) (t := (.array .byte)) (t' := .int) (by decide) (by decide)))
      have f104 := f103.other W102 (Or.inl (Ne.symm nb96))
      have f105 := F100.other W102 (Or.inl (Ne.symm nb96))
      have hH : own_hd x1 x2 = [(((x1 <<< ((5 : Int32) &&& 31))).toInt64 ||| x2).toInt32.toInt8.toInt32] := by rw [own_hd, if_neg hc8, if_pos hc16]
      have hN' : N = n + 1 := by rw [hN, hH]; rfl
      subst hN'
      exact w_retV X102 hx hret hlk (hb hby d8_47) (by decide) (by decide) (by rw [e102]; exact ⟨rfl, N102, KP102, _, _, f104, f105, V102, own_fitset fit96 (own_fitb _), (by rw [own_take1 (by omega), tk96, hF, hH]), (by rw [List.length_set]; omega), (by rw [List.length_set]; omega), (by rw [List.length_set]; exact l3196), nb96, or96⟩)
theorem d7_0 : decode prog_3_method_2_code 0 = .ok (.aload_n 0, 1) := by decide +kernel
theorem d7_1 : decode prog_3_method_2_code 1 = .ok (.iconst 0, 1) := by decide +kernel
theorem d7_2 : decode prog_3_method_2_code 2 = .ok (.lload_n 1, 1) := by decide +kernel
theorem d7_3 : decode prog_3_method_2_code 3 = .ok (.invokevirtual 21, 3) := by decide +kernel
theorem d7_6 : decode prog_3_method_2_code 6 = .ok (.return_, 1) := by decide +kernel
theorem ef_7 (m : MethodId) (ob : Addr) (x1 : Int64) : entryFrame m #[(.ref ob), (.long x1)] 3 = mkF m 0 #[.val (.ref ob), .val (.long x1), .second] [] := by first | (simp [entryFrame, mkF, argsToLocals, Value.category]; done) | rfl
set_option maxRecDepth 65536 in
set_option maxHeartbeats 40000000 in
theorem rm7 (l : Launch) (Z : State) (a0 : Array Value) (hw : ∀ d ∈ tables_1, d.before a0 Z = true) (ob : Addr) (x1 : Int64) (h0 : Heap) (n0 : Nat) (Z0 : n0 ≤ h0.size) (ba : Addr) (bs : List Int32) (n N : Nat) (FIN : List Int32) (E_ob : Exa Z h0 ob "com/example/inwrap/inwrap/CborWriter") (g_ob : n0 ≤ ob) (g_ba : n0 ≤ ba) (F_buffer : Fld Z h0 ob "com/example/inwrap/inwrap/CborWriter" "buffer" "[B" (.ref ba)) (F_size : Fld Z h0 ob "com/example/inwrap/inwrap/CborWriter" "size" "I" (.int n.toInt32)) (V_ba : AI Z h0 ba .byte bs) (hfit : (∀ x ∈ bs, fits .byte (.int x) = true)) (nab : ba ≠ ob) (hl : 16 ≤ bs.length ∧ bs.length ≤ 31) (hn : n ≤ 9) (hN : N = n + (own_hd (0 : Int32) x1).length) (hF : FIN = bs.take n ++ own_hd (0 : Int32) x1) :
    Con l Z (⟨"com/example/inwrap/inwrap/CborWriter", "writeUnsigned", "(J)V"⟩ : MethodName) prog_3_method_2_code 3 none ({ frames := 4, cells := 1, slots := 62, locals := 130 } : Room) #[(.ref ob), (.long x1)] h0 (own_W Z h0 n0 ob ba n N FIN) := by
  refine Con.of (plainFor_of_name (by first | (simp [plainName, overriddenIn]; done) | decide +kernel)) ?_
  intro p e s m below meth c T X hx hZ hby hml hown hnm hret hlk e0
  rw [ef_7]
  have N0 := Fr.nil n0
  have KP0 := Keep.refl h0 [ob, ba]
  show Go p e below s 1 62 (own_W Z h0 n0 ob ba n N FIN) T (mkF m 0 #[.val (.ref ob), .val (.long x1), .second] [])
  refine w_aloadN X hx (hb hby d7_0) (pc' := 1) rfl rfl rfl ?_
  refine w_iconst (v := 0) X hx (hb hby d7_1) (pc' := 2) rfl rfl ?_
  refine w_lloadN X hx (hb hby d7_2) (pc' := 3) rfl rfl ?_
  refine w_callP (argsL := [(.int (0 : Int32)), (.long x1)]) (rest := []) (a := ob) X hx hZ hown e0 E_ob (rm8 l Z a0 hw ob (0 : Int32) x1 h0 n0 Z0 ba bs n N FIN E_ob g_ob g_ba F_buffer F_size V_ba hfit nab hl hn hN hF) (hw _ (List.mem_of_getElem? (i := 39) rfl)) (hw _ (List.mem_of_getElem? (i := 40) rfl)) (own_selp (hw _ (List.mem_of_getElem? (i := 1) rfl)) (hw _ (List.mem_of_getElem? (i := 41) rfl)) (hw _ (List.mem_of_getElem? (i := 40) rfl)) (by decide)) (hw _ (List.mem_of_getElem? (i := 41) rfl)) (hw _ (List.mem_of_getElem? (i := 2) rfl)) (hw _ (List.mem_of_getElem? (i := 42) rfl)) (by decide) (by decide) (W := 0) (by decide) (by decide) (by decide) (by rw [hml]; rfl) (lenOf pd_2 rfl) (Nat.le_refl _) rfl (hb hby d7_3) (pc' := 6) rfl (fun T106 L106 v106 X106 hQ106 => ?_)
  obtain ⟨rfl, N106q, K106, b106, bs106, Fb106, Fs106, V106, fit106, tk106, ln106, l62106, l31106, nb106, or106⟩ := hQ106
  have zn106 : n0 ≤ T106.heap.size := Nat.le_trans Z0 K106.1
  have KP106 := KP0.trans K106 (allS (Or.inl (by simp)) (allS (Or.inl (by simp)) all0))
  have N106 := Fr.app N0 N106q
  have X106 : Stand p l e ({ frames := 4, cells := 1, slots := 62, locals := 130 } : Room) s m _ below meth c T106 _ 1 62 := X106
  have g_b106 : n0 ≤ b106 := or106.elim (fun q => by rw [q]; exact g_ba) (fun q => Nat.le_trans Z0 q)
  show Go p e below s 1 62 (own_W Z h0 n0 ob ba n N FIN) T106 (mkF m 6 #[.val (.ref ob), .val (.long x1), .second] [])
  exact w_retV X106 hx hret hlk (hb hby d7_6) (by decide) (by decide) (by exact ⟨rfl, N106, KP106, b106, bs106, Fb106, Fs106, V106, fit106, tk106, ln106, l62106, l31106, nb106, or106⟩)
theorem d10_0 : decode prog_3_method_3_code 0 = .ok (.aload_n 0, 1) := by decide +kernel
theorem d10_1 : decode prog_3_method_3_code 1 = .ok (.iconst 1, 1) := by decide +kernel
theorem d10_2 : decode prog_3_method_3_code 2 = .ok (.lload_n 1, 1) := by decide +kernel
theorem d10_3 : decode prog_3_method_3_code 3 = .ok (.invokevirtual 21, 3) := by decide +kernel
theorem d10_6 : decode prog_3_method_3_code 6 = .ok (.return_, 1) := by decide +kernel
theorem ef_10 (m : MethodId) (ob : Addr) (x1 : Int64) : entryFrame m #[(.ref ob), (.long x1)] 3 = mkF m 0 #[.val (.ref ob), .val (.long x1), .second] [] := by first | (simp [entryFrame, mkF, argsToLocals, Value.category]; done) | rfl
set_option maxRecDepth 65536 in
set_option maxHeartbeats 40000000 in
theorem rm10 (l : Launch) (Z : State) (a0 : Array Value) (hw : ∀ d ∈ tables_1, d.before a0 Z = true) (ob : Addr) (x1 : Int64) (h0 : Heap) (n0 : Nat) (Z0 : n0 ≤ h0.size) (ba : Addr) (bs : List Int32) (n N : Nat) (FIN : List Int32) (E_ob : Exa Z h0 ob "com/example/inwrap/inwrap/CborWriter") (g_ob : n0 ≤ ob) (g_ba : n0 ≤ ba) (F_buffer : Fld Z h0 ob "com/example/inwrap/inwrap/CborWriter" "buffer" "[B" (.ref ba)) (F_size : Fld Z h0 ob "com/example/inwrap/inwrap/CborWriter" "size" "I" (.int n.toInt32)) (V_ba : AI Z h0 ba .byte bs) (hfit : (∀ x ∈ bs, fits .byte (.int x) = true)) (nab : ba ≠ ob) (hl : 16 ≤ bs.length ∧ bs.length ≤ 31) (hn : n ≤ 9) (hN : N = n + (own_hd (1 : Int32) x1).length) (hF : FIN = bs.take n ++ own_hd (1 : Int32) x1) :
    Con l Z (⟨"com/example/inwrap/inwrap/CborWriter", "writeNegative", "(J)V"⟩ : MethodName) prog_3_method_3_code 3 none ({ frames := 4, cells := 1, slots := 62, locals := 130 } : Room) #[(.ref ob), (.long x1)] h0 (own_W Z h0 n0 ob ba n N FIN) := by
  refine Con.of (plainFor_of_name (by first | (simp [plainName, overriddenIn]; done) | decide +kernel)) ?_
  intro p e s m below meth c T X hx hZ hby hml hown hnm hret hlk e0
  rw [ef_10]
  have N0 := Fr.nil n0
  have KP0 := Keep.refl h0 [ob, ba]
  show Go p e below s 1 62 (own_W Z h0 n0 ob ba n N FIN) T (mkF m 0 #[.val (.ref ob), .val (.long x1), .second] [])
  refine w_aloadN X hx (hb hby d10_0) (pc' := 1) rfl rfl rfl ?_
  refine w_iconst (v := 1) X hx (hb hby d10_1) (pc' := 2) rfl rfl ?_
  refine w_lloadN X hx (hb hby d10_2) (pc' := 3) rfl rfl ?_
  refine w_callP (argsL := [(.int (1 : Int32)), (.long x1)]) (rest := []) (a := ob) X hx hZ hown e0 E_ob (rm8 l Z a0 hw ob (1 : Int32) x1 h0 n0 Z0 ba bs n N FIN E_ob g_ob g_ba F_buffer F_size V_ba hfit nab hl hn hN hF) (hw _ (List.mem_of_getElem? (i := 39) rfl)) (hw _ (List.mem_of_getElem? (i := 40) rfl)) (own_selp (hw _ (List.mem_of_getElem? (i := 1) rfl)) (hw _ (List.mem_of_getElem? (i := 41) rfl)) (hw _ (List.mem_of_getElem? (i := 40) rfl)) (by decide)) (hw _ (List.mem_of_getElem? (i := 41) rfl)) (hw _ (List.mem_of_getElem? (i := 2) rfl)) (hw _ (List.mem_of_getElem? (i := 42) rfl)) (by decide) (by decide) (W := 0) (by decide) (by decide) (by decide) (by rw [hml]; rfl) (lenOf pd_2 rfl) (Nat.le_refl _) rfl (hb hby d10_3) (pc' := 6) rfl (fun T107 L107 v107 X107 hQ107 => ?_)
  obtain ⟨rfl, N107q, K107, b107, bs107, Fb107, Fs107, V107, fit107, tk107, ln107, l62107, l31107, nb107, or107⟩ := hQ107
  have zn107 : n0 ≤ T107.heap.size := Nat.le_trans Z0 K107.1
  have KP107 := KP0.trans K107 (allS (Or.inl (by simp)) (allS (Or.inl (by simp)) all0))
  have N107 := Fr.app N0 N107q
  have X107 : Stand p l e ({ frames := 4, cells := 1, slots := 62, locals := 130 } : Room) s m _ below meth c T107 _ 1 62 := X107
  have g_b107 : n0 ≤ b107 := or107.elim (fun q => by rw [q]; exact g_ba) (fun q => Nat.le_trans Z0 q)
  show Go p e below s 1 62 (own_W Z h0 n0 ob ba n N FIN) T107 (mkF m 6 #[.val (.ref ob), .val (.long x1), .second] [])
  exact w_retV X107 hx hret hlk (hb hby d10_6) (by decide) (by decide) (by exact ⟨rfl, N107, KP107, b107, bs107, Fb107, Fs107, V107, fit107, tk107, ln107, l62107, l31107, nb107, or107⟩)
theorem own_nd1 {a b : Nat} (h : b + 1 ≤ a) (ha : a ≤ 1000) : ¬ (a.toInt32 - b.toInt32 < (1 : Int32)) := by
  rw [Int32.lt_iff_toInt_lt, Jvm.Kit.i32_sub (by rw [own_i (by omega), own_i (by omega)]; omega) (by rw [own_i (by omega), own_i (by omega)]; omega), own_i (by omega), own_i (by omega), own_one]
  omega
theorem own_ndk {a b k : Nat} (h : b + k ≤ a) (ha : a ≤ 1000) : ¬ (a.toInt32 - b.toInt32 < k.toInt32) := by
  rw [Int32.lt_iff_toInt_lt, Jvm.Kit.i32_sub (by rw [own_i (by omega), own_i (by omega)]; omega) (by rw [own_i (by omega), own_i (by omega)]; omega), own_i (by omega), own_i (by omega), own_i (by omega)]
  omega
theorem own_at {vs rest : List Int32} {q : Nat} {b : Int32} (h : vs.drop q = b :: rest) : vs[q]? = some b := by
  have := congrArg (fun l : List Int32 => l[0]?) h
  simpa using this
theorem own_at2 {vs rest : List Int32} {q : Nat} {b : Int32} (h : vs.drop q = b :: rest) : vs.drop (q + 1) = rest := by
  rw [← List.tail_drop, h]; rfl
theorem own_pn {y : Int64} (h : 0 ≤ y.toInt) : (y.toBitVec.toNat : Int) = y.toInt := by
  have h1 : y.toInt = y.toBitVec.toInt := rfl
  rw [h1, BitVec.toInt_eq_toNat_cond] at h
  rw [h1, BitVec.toInt_eq_toNat_cond]
  have := y.toBitVec.isLt
  split at h <;> split <;> omega
theorem own_vb {v K : Int64} (k : Nat) (h0 : ¬ v < 0) (h : ¬ K < v) (hK : K.toInt < (256 ^ k : Nat)) : v.toBitVec.toNat < 256 ^ k := by
  have e : (0 : Int64).toInt = 0 := by decide
  rw [Int64.lt_iff_toInt_lt, e] at h0
  rw [Int64.lt_iff_toInt_lt] at h
  have := own_pn (y := v) (by omega)
  omega
theorem own_byte (w : Int64) : ((w.toInt32.toInt8.toInt32) &&& (255 : Int32)).toInt64.toBitVec.toNat = w.toBitVec.toNat % 256 := by
  have e1 : (w.toInt32.toInt8.toInt32 &&& 255).toInt = w.toInt32.toInt8.toInt32.toInt % 2 ^ 8 := Jvm.Kit.i32_mask _ 255 (k := 8) (by decide) (by decide)
  have e2 : w.toInt32.toInt8.toInt32.toInt = w.toInt32.toInt8.toInt := Int8.toInt_toInt32 _
  have e3 : w.toInt32.toInt8.toInt = w.toInt32.toInt.bmod (2 ^ 8) := Int32.toInt_toInt8 _
  have e4 : w.toInt32.toInt = w.toInt.bmod (2 ^ 32) := Int64.toInt_toInt32 _
  have e5 : (w.toInt32.toInt8.toInt32 &&& 255).toInt64.toInt = (w.toInt32.toInt8.toInt32 &&& 255).toInt := Int32.toInt_toInt64 _
  have e6 : ∀ (x : Int), x.bmod (2 ^ 8) % 256 = x % 256 := by intro x; rw [Int.bmod_def]; simp; split <;> omega
  have e7 : ∀ (x : Int), x.bmod (2 ^ 32) % 256 = x % 256 := by intro x; rw [Int.bmod_def]; simp; split <;> omega
  have e8 : w.toInt % 256 = (w.toBitVec.toNat : Int) % 256 := by
    have h1 : w.toInt = w.toBitVec.toInt := rfl
    rw [h1, BitVec.toInt_eq_toNat_cond]
    split <;> omega
  have e9 : (w.toInt32.toInt8.toInt32 &&& 255).toInt64.toInt = (w.toBitVec.toNat : Int) % 256 := by
    rw [e5, e1, e2, e3, show (2 : Int) ^ 8 = 256 from by decide, e6, e4, e7, e8]
  have := own_pn (y := (w.toInt32.toInt8.toInt32 &&& 255).toInt64) (by rw [e9]; omega)
  omega
theorem own_shv : ∀ j, j < 8 → ((own_sh (j + 1)).toInt % 64).toNat = 8 * j := by decide
theorem own_step {v acc : Int64} {j : Nat} (hj : j < 8) (h : acc.toBitVec.toNat = v.toBitVec.toNat / 256 ^ (j + 1)) : ((acc <<< ((8 : Int32) &&& 0x3f).toInt64) ||| (((jlushr v (own_sh (j + 1))).toInt32.toInt8.toInt32) &&& (255 : Int32)).toInt64).toBitVec.toNat = v.toBitVec.toNat / 256 ^ j := by
  have e8 : ((8 : Int32).toInt % 64).toNat = 8 := by decide
  rw [Int64.toBitVec_or, BitVec.toNat_or, own_byte, own_lushr_nat, own_shv j hj, own_shl_bv, e8, BitVec.toNat_shiftLeft, h]
  have hv := v.toBitVec.isLt
  have p1 : (256 : Nat) ^ j = 2 ^ (8 * j) := by rw [Nat.pow_mul]
  have p2 : (256 : Nat) ^ (j + 1) = 256 ^ j * 256 := Nat.pow_succ ..
  rw [← p1, p2, ← Nat.div_div_eq_div_mul]
  have hq : v.toBitVec.toNat / 256 ^ j < 2 ^ 64 := Nat.lt_of_le_of_lt (Nat.div_le_self _ _) hv
  generalize v.toBitVec.toNat / 256 ^ j = q at *
  have e1 : (q / 256) <<< 8 % 2 ^ 64 = (q / 256) <<< 8 := by rw [Nat.shiftLeft_eq]; omega
  rw [e1, ← Nat.shiftLeft_add_eq_or_of_lt (by omega), Nat.shiftLeft_eq]
  omega
theorem own_acc {v acc : Int64} (h : acc.toBitVec.toNat = v.toBitVec.toNat / 256 ^ 0) : acc = v := by
  rw [Nat.pow_zero, Nat.div_one] at h
  exact Int64.toBitVec_inj.mp (BitVec.eq_of_toNat_eq h)
theorem own_acc0 {v : Int64} {k : Nat} (h : v.toBitVec.toNat < 256 ^ k) : (0 : Int64).toBitVec.toNat = v.toBitVec.toNat / 256 ^ k := by
  rw [Nat.div_eq_of_lt h]; rfl
theorem own_lf {x1 i : Int32} (h1 : x1 = 0 ∨ x1 = 1) (hi : i = 24 ∨ i = 25 ∨ i = 26 ∨ i = 27) : (jushr ((((x1 <<< ((5 : Int32) &&& 31)) ||| i).toInt8.toInt32) &&& (255 : Int32)) (5 : Int32)) = x1 ∧ ((((((x1 <<< ((5 : Int32) &&& 31)) ||| i).toInt8.toInt32) &&& (255 : Int32)) &&& (31 : Int32)) = i) := by
  rcases h1 with rfl | rfl <;> rcases hi with rfl | rfl | rfl | rfl <;> decide +kernel
theorem own_sf0 : ∀ k, k < 24 → (jushr (((((((0 : Int32) <<< ((5 : Int32) &&& 31))).toInt64 ||| (Int64.ofNat k)).toInt32.toInt8.toInt32)) &&& (255 : Int32)) (5 : Int32)) = (0 : Int32) ∧ ((((((((0 : Int32) <<< ((5 : Int32) &&& 31))).toInt64 ||| (Int64.ofNat k)).toInt32.toInt8.toInt32)) &&& (255 : Int32)) &&& (31 : Int32)) < (24 : Int32) ∧ ((((((((0 : Int32) <<< ((5 : Int32) &&& 31))).toInt64 ||| (Int64.ofNat k)).toInt32.toInt8.toInt32)) &&& (255 : Int32)) &&& (31 : Int32)).toInt64 = (Int64.ofNat k) := by decide +kernel
theorem own_sf1 : ∀ k, k < 24 → (jushr (((((((1 : Int32) <<< ((5 : Int32) &&& 31))).toInt64 ||| (Int64.ofNat k)).toInt32.toInt8.toInt32)) &&& (255 : Int32)) (5 : Int32)) = (1 : Int32) ∧ ((((((((1 : Int32) <<< ((5 : Int32) &&& 31))).toInt64 ||| (Int64.ofNat k)).toInt32.toInt8.toInt32)) &&& (255 : Int32)) &&& (31 : Int32)) < (24 : Int32) ∧ ((((((((1 : Int32) <<< ((5 : Int32) &&& 31))).toInt64 ||| (Int64.ofNat k)).toInt32.toInt8.toInt32)) &&& (255 : Int32)) &&& (31 : Int32)).toInt64 = (Int64.ofNat k) := by decide +kernel
theorem own_sf {x1 : Int32} {v : Int64} (h1 : x1 = 0 ∨ x1 = 1) (h0 : ¬ v < (0 : Int64)) (h24 : v < (24 : Int64)) : (jushr ((((((x1 <<< ((5 : Int32) &&& 31))).toInt64 ||| v).toInt32.toInt8.toInt32)) &&& (255 : Int32)) (5 : Int32)) = x1 ∧ (((((((x1 <<< ((5 : Int32) &&& 31))).toInt64 ||| v).toInt32.toInt8.toInt32)) &&& (255 : Int32)) &&& (31 : Int32)) < (24 : Int32) ∧ (((((((x1 <<< ((5 : Int32) &&& 31))).toInt64 ||| v).toInt32.toInt8.toInt32)) &&& (255 : Int32)) &&& (31 : Int32)).toInt64 = v := by
  have e0 : (0 : Int64).toInt = 0 := by decide
  have e1 : (24 : Int64).toInt = 24 := by decide
  rw [Int64.lt_iff_toInt_lt, e0] at h0
  rw [Int64.lt_iff_toInt_lt, e1] at h24
  have hv : v = Int64.ofNat v.toInt.toNat := by
    apply Int64.toInt_inj.mp
    rw [Int64.toInt_ofNat_of_lt (by omega)]; omega
  have hk : v.toInt.toNat < 24 := by omega
  generalize v.toInt.toNat = k at *
  subst hv
  rcases h1 with rfl | rfl
  · exact own_sf0 k hk
  · exact own_sf1 k hk
theorem d15_0 : decode prog_2_method_24_code 0 = .ok (.aload_n 0, 1) := by decide +kernel
theorem d15_1 : decode prog_2_method_24_code 1 = .ok (.getfield 7, 3) := by decide +kernel
theorem d15_4 : decode prog_2_method_24_code 4 = .ok (.arraylength, 1) := by decide +kernel
theorem d15_5 : decode prog_2_method_24_code 5 = .ok (.aload_n 0, 1) := by decide +kernel
theorem d15_6 : decode prog_2_method_24_code 6 = .ok (.getfield 32, 3) := by decide +kernel
theorem d15_9 : decode prog_2_method_24_code 9 = .ok (.isub, 1) := by decide +kernel
theorem d15_10 : decode prog_2_method_24_code 10 = .ok (.iload_n 1, 1) := by decide +kernel
theorem d15_11 : decode prog_2_method_24_code 11 = .ok (.if_icmp .ge 21, 3) := by decide +kernel
theorem d15_32 : decode prog_2_method_24_code 32 = .ok (.return_, 1) := by decide +kernel
theorem d14_0 : decode prog_2_method_20_code 0 = .ok (.aload_n 0, 1) := by decide +kernel
theorem d14_1 : decode prog_2_method_20_code 1 = .ok (.getfield 32, 3) := by decide +kernel
theorem d14_4 : decode prog_2_method_20_code 4 = .ok (.istore_n 2, 1) := by decide +kernel
theorem d14_5 : decode prog_2_method_20_code 5 = .ok (.aload_n 0, 1) := by decide +kernel
theorem d14_6 : decode prog_2_method_20_code 6 = .ok (.iconst 1, 1) := by decide +kernel
theorem d14_7 : decode prog_2_method_20_code 7 = .ok (.invokevirtual 36, 3) := by decide +kernel
theorem d14_10 : decode prog_2_method_20_code 10 = .ok (.aload_n 0, 1) := by decide +kernel
theorem d14_11 : decode prog_2_method_20_code 11 = .ok (.getfield 7, 3) := by decide +kernel
theorem d14_14 : decode prog_2_method_20_code 14 = .ok (.aload_n 0, 1) := by decide +kernel
theorem d14_15 : decode prog_2_method_20_code 15 = .ok (.getfield 32, 3) := by decide +kernel
theorem d14_18 : decode prog_2_method_20_code 18 = .ok (.baload, 1) := by decide +kernel
theorem d14_19 : decode prog_2_method_20_code 19 = .ok (.sipush 255, 3) := by decide +kernel
theorem d14_22 : decode prog_2_method_20_code 22 = .ok (.iand, 1) := by decide +kernel
theorem d14_23 : decode prog_2_method_20_code 23 = .ok (.istore_n 3, 1) := by decide +kernel
theorem d14_24 : decode prog_2_method_20_code 24 = .ok (.iload_n 3, 1) := by decide +kernel
theorem d14_25 : decode prog_2_method_20_code 25 = .ok (.iconst 5, 1) := by decide +kernel
theorem d14_26 : decode prog_2_method_20_code 26 = .ok (.iushr, 1) := by decide +kernel
theorem d14_27 : decode prog_2_method_20_code 27 = .ok (.iload_n 1, 1) := by decide +kernel
theorem d14_28 : decode prog_2_method_20_code 28 = .ok (.if_icmp .eq 29, 3) := by decide +kernel
theorem d14_57 : decode prog_2_method_20_code 57 = .ok (.iload_n 3, 1) := by decide +kernel
theorem d14_58 : decode prog_2_method_20_code 58 = .ok (.bipush 31, 2) := by decide +kernel
theorem d14_60 : decode prog_2_method_20_code 60 = .ok (.iand, 1) := by decide +kernel
theorem d14_61 : decode prog_2_method_20_code 61 = .ok (.istore 4, 2) := by decide +kernel
theorem d14_63 : decode prog_2_method_20_code 63 = .ok (.aload_n 0, 1) := by decide +kernel
theorem d14_64 : decode prog_2_method_20_code 64 = .ok (.dup, 1) := by decide +kernel
theorem d14_65 : decode prog_2_method_20_code 65 = .ok (.getfield 32, 3) := by decide +kernel
theorem d14_68 : decode prog_2_method_20_code 68 = .ok (.iconst 1, 1) := by decide +kernel
theorem d14_69 : decode prog_2_method_20_code 69 = .ok (.iadd, 1) := by decide +kernel
theorem d14_70 : decode prog_2_method_20_code 70 = .ok (.putfield 32, 3) := by decide +kernel
theorem d14_73 : decode prog_2_method_20_code 73 = .ok (.iload 4, 2) := by decide +kernel
theorem d14_75 : decode prog_2_method_20_code 75 = .ok (.bipush 24, 2) := by decide +kernel
theorem d14_77 : decode prog_2_method_20_code 77 = .ok (.if_icmp .ge 7, 3) := by decide +kernel
theorem d14_80 : decode prog_2_method_20_code 80 = .ok (.iload 4, 2) := by decide +kernel
theorem d14_82 : decode prog_2_method_20_code 82 = .ok (.i2l, 1) := by decide +kernel
theorem d14_83 : decode prog_2_method_20_code 83 = .ok (.lreturn, 1) := by decide +kernel
theorem d14_84 : decode prog_2_method_20_code 84 = .ok (.iload 4, 2) := by decide +kernel
theorem d14_86 : decode prog_2_method_20_code 86 = .ok (.bipush 27, 2) := by decide +kernel
theorem d14_88 : decode prog_2_method_20_code 88 = .ok (.if_icmp .le 33, 3) := by decide +kernel
theorem d14_121 : decode prog_2_method_20_code 121 = .ok (.iconst 1, 1) := by decide +kernel
theorem d14_122 : decode prog_2_method_20_code 122 = .ok (.iload 4, 2) := by decide +kernel
theorem d14_124 : decode prog_2_method_20_code 124 = .ok (.bipush 24, 2) := by decide +kernel
theorem d14_126 : decode prog_2_method_20_code 126 = .ok (.isub, 1) := by decide +kernel
theorem d14_127 : decode prog_2_method_20_code 127 = .ok (.ishl, 1) := by decide +kernel
theorem d14_128 : decode prog_2_method_20_code 128 = .ok (.istore 5, 2) := by decide +kernel
theorem d14_130 : decode prog_2_method_20_code 130 = .ok (.aload_n 0, 1) := by decide +kernel
theorem d14_131 : decode prog_2_method_20_code 131 = .ok (.iload 5, 2) := by decide +kernel
theorem d14_133 : decode prog_2_method_20_code 133 = .ok (.invokevirtual 36, 3) := by decide +kernel
theorem d14_136 : decode prog_2_method_20_code 136 = .ok (.lconst 0, 1) := by decide +kernel
theorem d14_137 : decode prog_2_method_20_code 137 = .ok (.lstore 6, 2) := by decide +kernel
theorem d14_139 : decode prog_2_method_20_code 139 = .ok (.iconst 0, 1) := by decide +kernel
theorem d14_140 : decode prog_2_method_20_code 140 = .ok (.istore 8, 2) := by decide +kernel
theorem d14_142 : decode prog_2_method_20_code 142 = .ok (.iload 8, 2) := by decide +kernel
theorem d14_144 : decode prog_2_method_20_code 144 = .ok (.iload 5, 2) := by decide +kernel
theorem d14_146 : decode prog_2_method_20_code 146 = .ok (.if_icmp .ge 38, 3) := by decide +kernel
theorem d14_149 : decode prog_2_method_20_code 149 = .ok (.lload 6, 2) := by decide +kernel
theorem d14_151 : decode prog_2_method_20_code 151 = .ok (.bipush 8, 2) := by decide +kernel
theorem d14_153 : decode prog_2_method_20_code 153 = .ok (.lshl, 1) := by decide +kernel
theorem d14_154 : decode prog_2_method_20_code 154 = .ok (.aload_n 0, 1) := by decide +kernel
theorem d14_155 : decode prog_2_method_20_code 155 = .ok (.getfield 7, 3) := by decide +kernel
theorem d14_158 : decode prog_2_method_20_code 158 = .ok (.aload_n 0, 1) := by decide +kernel
theorem d14_159 : decode prog_2_method_20_code 159 = .ok (.dup, 1) := by decide +kernel
theorem d14_160 : decode prog_2_method_20_code 160 = .ok (.getfield 32, 3) := by decide +kernel
theorem d14_163 : decode prog_2_method_20_code 163 = .ok (.dup_x1, 1) := by decide +kernel
theorem d14_164 : decode prog_2_method_20_code 164 = .ok (.iconst 1, 1) := by decide +kernel
theorem d14_165 : decode prog_2_method_20_code 165 = .ok (.iadd, 1) := by decide +kernel
theorem d14_166 : decode prog_2_method_20_code 166 = .ok (.putfield 32, 3) := by decide +kernel
theorem d14_169 : decode prog_2_method_20_code 169 = .ok (.baload, 1) := by decide +kernel
theorem d14_170 : decode prog_2_method_20_code 170 = .ok (.sipush 255, 3) := by decide +kernel
theorem d14_173 : decode prog_2_method_20_code 173 = .ok (.iand, 1) := by decide +kernel
theorem d14_174 : decode prog_2_method_20_code 174 = .ok (.i2l, 1) := by decide +kernel
theorem d14_175 : decode prog_2_method_20_code 175 = .ok (.lor, 1) := by decide +kernel
theorem d14_176 : decode prog_2_method_20_code 176 = .ok (.lstore 6, 2) := by decide +kernel
theorem d14_178 : decode prog_2_method_20_code 178 = .ok (.iinc 8 1, 3) := by decide +kernel
theorem d14_181 : decode prog_2_method_20_code 181 = .ok (.goto (-39), 3) := by decide +kernel
theorem d14_184 : decode prog_2_method_20_code 184 = .ok (.lload 6, 2) := by decide +kernel
theorem d14_186 : decode prog_2_method_20_code 186 = .ok (.lreturn, 1) := by decide +kernel
theorem ef_15 (m : MethodId) (ob : Addr) (x1 : Int32) : entryFrame m #[(.ref ob), (.int x1)] 2 = mkF m 0 #[.val (.ref ob), .val (.int x1)] [] := by first | (simp [entryFrame, mkF, argsToLocals, Value.category]; done) | rfl
set_option maxRecDepth 65536 in
set_option maxHeartbeats 40000000 in
theorem rm15 (l : Launch) (Z : State) (a0 : Array Value) (hw : ∀ d ∈ tables_1, d.before a0 Z = true) (ob : Addr) (x1 : Int32) (h0 : Heap) (n0 : Nat) (Z0 : n0 ≤ h0.size) (ar : Addr) (vs : List Int32) (p_ : Nat) (F_input : Fld Z h0 ob "com/example/inwrap/inwrap/CborReader" "input" "[B" (.ref ar)) (F_position : Fld Z h0 ob "com/example/inwrap/inwrap/CborReader" "position" "I" (.int p_.toInt32)) (V_ar : AI Z h0 ar .byte vs) (hnd : ¬ (vs.length.toInt32 - p_.toInt32 < x1)) :
    Con l Z (⟨"com/example/inwrap/inwrap/CborReader", "need", "(I)V"⟩ : MethodName) prog_2_method_24_code 2 none ({ frames := 0, cells := 0, slots := 0, locals := 0 } : Room) #[(.ref ob), (.int x1)] h0 (QP none h0 n0) := by
  refine Con.of (plainFor_of_name (by first | (simp [plainName, overriddenIn]; done) | decide +kernel)) ?_
  intro p e s m below meth c T X hx hZ hby hml hown hnm hret hlk e0
  rw [ef_15]
  have N0 := Fr.nil n0
  show Go p e below s 0 0 (QP none h0 n0) T (mkF m 0 #[.val (.ref ob), .val (.int x1)] [])
  refine w_aloadN X hx (hb hby d15_0) (pc' := 1) rfl rfl rfl ?_
  refine w_getF X hx hZ hown e0 F_input (hw _ (List.mem_of_getElem? (i := 71) rfl)) (hb hby d15_1) (pc' := 4) rfl (fun T108 X108 e108 => ?_)
  refine w_alenI X108 hx hZ e108 V_ar (n := (vs.length.toInt32)) rfl (hb hby d15_4) (pc' := 5) rfl ?_
  refine w_aloadN X108 hx (hb hby d15_5) (pc' := 6) rfl rfl rfl ?_
  refine w_getF X108 hx hZ hown e108 F_position (hw _ (List.mem_of_getElem? (i := 82) rfl)) (hb hby d15_6) (pc' := 9) rfl (fun T109 X109 e109 => ?_)
  refine w_isub X109 hx (hb hby d15_9) (pc' := 10) rfl ?_
  refine w_iloadN X109 hx (hb hby d15_10) (pc' := 11) rfl rfl ?_
  have hf11 : ¬ (((vs.length.toInt32) - p_.toInt32) < x1) := hnd
  refine w_icmp_ge X109 hx (hb hby d15_11) (pf := 14) (pt := 32) rfl (by decide) (by decide) (fun hc11 => ?_) (fun hc => absurd hc hf11)
  exact w_retV X109 hx hret hlk (hb hby d15_32) (by decide) (by decide) ⟨rfl, N0, e109⟩
set_option maxRecDepth 65536 in
set_option maxHeartbeats 40000000 in
theorem lr {p : Program} {l : Launch} {e : Env} {s : State} {m : MethodId} {args : Array Value} {below : List Frame} {meth : Method} {c : Code} {Z : State} {a0 : Array Value} {h0 : Heap} {n0 : Nat} (hx : p.tables.exec = Jvm.exec) (hZ : Z.Warmed39 s.vm) (hw : ∀ d ∈ tables_1, d.before a0 Z = true) (hby : c.code = prog_2_method_20_code) (hml : c.maxLocals = 9) (hown : s.vm.findClass "com/example/inwrap/inwrap/CborReader" = some m.cls) (hret : meth.sig.returnType = (some .long)) (hlk : meth.locks = false) (x1 i2 i3 i4 : Int32) (v : Int64) (ob ar : Addr) (vs post : List Int32) (k P : Nat) (g_ob : n0 ≤ ob) (nao : ar ≠ ob) (hk8 : k ≤ 8) (hP : P ≤ 100) : ∀ (j : Nat) (T : State) (locs : List Loc) (h : Heap) (q i : Nat) (acc : Int64) (ii : Int32) (X : Stand p l e ({ frames := 1, cells := 0, slots := 0, locals := 40 } : Room) s m args below meth c T locs 0 0) (e0 : T.heap = h) (N0 : Fr n0 locs) (Z0 : n0 ≤ h.size) (KP0 : Keep h0 h [ob]) (E_ob : Exa Z h ob "com/example/inwrap/inwrap/CborReader") (F_input : Fld Z h ob "com/example/inwrap/inwrap/CborReader" "input" "[B" (.ref ar)) (F_position : Fld Z h ob "com/example/inwrap/inwrap/CborReader" "position" "I" (.int q.toInt32)) (V_ar : AI Z h ar .byte vs) (hii : ii = i.toInt32) (hik : i + j = k) (hqP : q + j = P) (hd : vs.drop q = own_by v j ++ post) (hacc : acc.toBitVec.toNat = v.toBitVec.toNat / 256 ^ j),
    Go p e below s 0 0 (fun r h L => r = some (.long v) ∧ Fr n0 L ∧ Keep h0 h [ob] ∧ Fld Z h ob "com/example/inwrap/inwrap/CborReader" "position" "I" (.int P.toInt32) ∧ Fld Z h ob "com/example/inwrap/inwrap/CborReader" "input" "[B" (.ref ar)) T (mkF m 142 #[.val (.ref ob), .val (.int x1), .val (.int i2), .val (.int i3), .val (.int i4), .val (.int k.toInt32), .val (.long acc), .second, .val (.int ii)] []) := by
  intro j
  induction j with
  | zero =>
    intro T locs h q i acc ii X e0 N0 Z0 KP0 E_ob F_input F_position V_ar hii hik hqP hd hacc
    rw [Nat.add_zero] at hik hqP
    subst hik hqP hii
    refine w_iload X hx (hb hby d14_142) (pc' := 144) rfl rfl ?_
    refine w_iload X hx (hb hby d14_144) (pc' := 146) rfl rfl ?_
    have hf146 : ¬ (i.toInt32 < i.toInt32) := Int32.lt_irrefl
    refine w_icmp_ge X hx (hb hby d14_146) (pf := 149) (pt := 184) rfl (by decide) (by decide) (fun hc146 => ?_) (fun hc => absurd hc hf146)
    refine w_lload X hx (hb hby d14_184) (pc' := 186) rfl rfl ?_
    exact w_retJ X hx hret hlk (hb hby d14_186) (by decide) (by decide) (by rw [e0]; exact ⟨by rw [own_acc hacc], N0, KP0, F_position, F_input⟩)
  | succ j ih =>
    intro T locs h q i acc ii X e0 N0 Z0 KP0 E_ob F_input F_position V_ar hii hik hqP hd hacc
    subst hii
    refine w_iload X hx (hb hby d14_142) (pc' := 144) rfl rfl ?_
    refine w_iload X hx (hb hby d14_144) (pc' := 146) rfl rfl ?_
    have hf146 : i.toInt32 < k.toInt32 := (own_ilt (by omega) (by omega)).2 (by omega)
    refine w_icmp_ge X hx (hb hby d14_146) (pf := 149) (pt := 184) rfl (by decide) (by decide) (fun hc => absurd hf146 hc) (fun hc146 => ?_)
    refine w_lload X hx (hb hby d14_149) (pc' := 151) rfl rfl ?_
    refine w_bipush (v := 8) X hx (hb hby d14_151) (pc' := 153) rfl rfl ?_
    refine w_lshl X hx (hb hby d14_153) (pc' := 154) rfl ?_
    refine w_aloadN X hx (hb hby d14_154) (pc' := 155) rfl rfl rfl ?_
    refine w_getF X hx hZ hown e0 F_input (hw _ (List.mem_of_getElem? (i := 71) rfl)) (hb hby d14_155) (pc' := 158) rfl (fun T110 X110 e110 => ?_)
    refine w_aloadN X110 hx (hb hby d14_158) (pc' := 159) rfl rfl rfl ?_
    refine w_dup X110 hx (hb hby d14_159) (pc' := 160) rfl rfl ?_
    refine w_getF X110 hx hZ hown e110 F_position (hw _ (List.mem_of_getElem? (i := 82) rfl)) (hb hby d14_160) (pc' := 163) rfl (fun T111 X111 e111 => ?_)
    refine w_dupX1 X111 hx (hb hby d14_163) (pc' := 164) rfl rfl rfl ?_
    refine w_iconst (v := 1) X111 hx (hb hby d14_164) (pc' := 165) rfl rfl ?_
    refine w_iadd X111 hx (hb hby d14_165) (pc' := 166) rfl ?_
    rw [own_iinc (n := q) (by omega)]
    refine w_putF X111 hx hZ hown e111 F_position E_ob (hw _ (List.mem_of_getElem? (i := 82) rfl)) (Or.inl (hw _ (List.mem_of_getElem? (i := 83) rfl))) (hw _ (List.mem_of_getElem? (i := 65) rfl)) (ty := .int) (by decide) rfl rfl (hb hby d14_166) (pc' := 169) rfl (fun T112 h112 X112 e112 W112 => ?_)
    have F112 := F_position.same W112
    have KP112 := KP0.wr W112 (Or.inl (by simp))
    have N112 := Fr.snoc X112 N0 g_ob
    have zn112 : n0 ≤ h112.size := by rw [W112.size]; exact Z0
    have f113 := V_ar.other W112 nao
    refine w_baload X112 hx hZ e112 f113 (v := (jlushr v (own_sh (j + 1))).toInt32.toInt8.toInt32) (own_nneg (by omega)) (by rw [own_nat (by omega)]; exact own_at hd) (hb hby d14_169) (pc' := 170) rfl ?_
    refine w_sipush (v := 255) X112 hx (hb hby d14_170) (pc' := 173) rfl rfl ?_
    refine w_iand X112 hx (hb hby d14_173) (pc' := 174) rfl ?_
    refine w_i2l X112 hx (hb hby d14_174) (pc' := 175) rfl ?_
    refine w_lor X112 hx (hb hby d14_175) (pc' := 176) rfl ?_
    refine w_lstore (Ls' := #[.val (.ref ob), .val (.int x1), .val (.int i2), .val (.int i3), .val (.int i4), .val (.int k.toInt32), .val (.long ((acc <<< ((8 : Int32) &&& 0x3f).toInt64) ||| ((jlushr v (own_sh (j + 1))).toInt32.toInt8.toInt32 &&& (255 : Int32)).toInt64)), .second, .val (.int i.toInt32)]) X112 hx (hb hby d14_176) (pc' := 178) rfl rfl ?_
    refine w_iinc (Ls' := #[.val (.ref ob), .val (.int x1), .val (.int i2), .val (.int i3), .val (.int i4), .val (.int k.toInt32), .val (.long ((acc <<< ((8 : Int32) &&& 0x3f).toInt64) ||| ((jlushr v (own_sh (j + 1))).toInt32.toInt8.toInt32 &&& (255 : Int32)).toInt64)), .second, .val (.int (i.toInt32 + (1 : Int32)))]) (w := (1 : Int32)) X112 hx (hb hby d14_178) (pc' := 181) rfl rfl rfl rfl ?_
    refine w_goto X112 hx (hb hby d14_181) (pc' := 142) (by decide) (by decide) ?_
    have f114 := E_ob.wr W112
    have f115 := F_input.other W112 (Or.inr (slot_ne (Or.inr (hw _ (List.mem_of_getElem? (i := 72) rfl))) (Or.inl (hw _ (List.mem_of_getElem? (i := 83) rfl))) (by decide) (t := (.array .byte)) (t' := .int) (by decide) (by decide)))
    exact ih _ _ _ (q + 1) (i + 1) _ _ X112 e112 N112 zn112 KP112 f114 f115 F112 f113 (own_iinc (by omega)) (by omega) (by omega) (own_at2 hd) (own_step (by omega) hacc)
theorem ef_14 (m : MethodId) (ob : Addr) (x1 : Int32) : entryFrame m #[(.ref ob), (.int x1)] 9 = mkF m 0 #[.val (.ref ob), .val (.int x1), .unset, .unset, .unset, .unset, .unset, .unset, .unset] [] := by first | (simp [entryFrame, mkF, argsToLocals, Value.category]; done) | rfl
set_option maxRecDepth 65536 in
set_option maxHeartbeats 40000000 in
theorem rm14s (l : Launch) (Z : State) (a0 : Array Value) (hw : ∀ d ∈ tables_1, d.before a0 Z = true) (ob : Addr) (x1 : Int32) (h0 : Heap) (n0 : Nat) (Z0 : n0 ≤ h0.size) (ar : Addr) (vs : List Int32) (p_ : Nat) (v : Int64) (fb : Int32) (E_ob : Exa Z h0 ob "com/example/inwrap/inwrap/CborReader") (g_ob : n0 ≤ ob) (F_input : Fld Z h0 ob "com/example/inwrap/inwrap/CborReader" "input" "[B" (.ref ar)) (F_position : Fld Z h0 ob "com/example/inwrap/inwrap/CborReader" "position" "I" (.int p_.toInt32)) (V_ar : AI Z h0 ar .byte vs) (nao : ar ≠ ob) (hfb : vs[p_]? = some fb) (hmt : (jushr (fb &&& (255 : Int32)) (5 : Int32)) = x1) (hin : ((fb &&& (255 : Int32)) &&& (31 : Int32)) < (24 : Int32)) (hv : ((fb &&& (255 : Int32)) &&& (31 : Int32)).toInt64 = v) (hpl : p_ + 1 ≤ vs.length) (hl : vs.length ≤ 50) :
    Con l Z (⟨"com/example/inwrap/inwrap/CborReader", "readArgument", "(I)J"⟩ : MethodName) prog_2_method_20_code 9 (some .long) ({ frames := 1, cells := 0, slots := 0, locals := 40 } : Room) #[(.ref ob), (.int x1)] h0 (fun r h L => r = some (.long v) ∧ Fr n0 L ∧ Keep h0 h [ob] ∧ Fld Z h ob "com/example/inwrap/inwrap/CborReader" "position" "I" (.int (p_ + 1).toInt32) ∧ Fld Z h ob "com/example/inwrap/inwrap/CborReader" "input" "[B" (.ref ar)) := by
  refine Con.of (plainFor_of_name (by first | (simp [plainName, overriddenIn]; done) | decide +kernel)) ?_
  intro p e s m below meth c T X hx hZ hby hml hown hnm hret hlk e0
  rw [ef_14]
  have N0 := Fr.nil n0
  have KP0 := Keep.refl h0 [ob]
  show Go p e below s 0 0 (fun r h L => r = some (.long v) ∧ Fr n0 L ∧ Keep h0 h [ob] ∧ Fld Z h ob "com/example/inwrap/inwrap/CborReader" "position" "I" (.int (p_ + 1).toInt32) ∧ Fld Z h ob "com/example/inwrap/inwrap/CborReader" "input" "[B" (.ref ar)) T (mkF m 0 #[.val (.ref ob), .val (.int x1), .unset, .unset, .unset, .unset, .unset, .unset, .unset] [])
  refine w_aloadN X hx (hb hby d14_0) (pc' := 1) rfl rfl rfl ?_
  refine w_getF X hx hZ hown e0 F_position (hw _ (List.mem_of_getElem? (i := 82) rfl)) (hb hby d14_1) (pc' := 4) rfl (fun T116 X116 e116 => ?_)
  refine w_istoreN (Ls' := #[.val (.ref ob), .val (.int x1), .val (.int p_.toInt32), .unset, .unset, .unset, .unset, .unset, .unset]) X116 hx (hb hby d14_4) (pc' := 5) rfl rfl ?_
  refine w_aloadN X116 hx (hb hby d14_5) (pc' := 6) rfl rfl rfl ?_
  refine w_iconst (v := 1) X116 hx (hb hby d14_6) (pc' := 7) rfl rfl ?_
  refine w_callP (argsL := [(.int (1 : Int32))]) (rest := []) (a := ob) X116 hx hZ hown e116 E_ob (rm15 l Z a0 hw ob (1 : Int32) h0 n0 Z0 ar vs p_ F_input F_position V_ar (own_nd1 (by omega) (by omega))) (hw _ (List.mem_of_getElem? (i := 84) rfl)) (hw _ (List.mem_of_getElem? (i := 85) rfl)) (own_selp (hw _ (List.mem_of_getElem? (i := 65) rfl)) (hw _ (List.mem_of_getElem? (i := 86) rfl)) (hw _ (List.mem_of_getElem? (i := 85) rfl)) (by decide)) (hw _ (List.mem_of_getElem? (i := 86) rfl)) (hw _ (List.mem_of_getElem? (i := 66) rfl)) (hw _ (List.mem_of_getElem? (i := 87) rfl)) (by decide) (by decide) (W := 0) (by decide) (by decide) (by decide) (by rw [hml]; rfl) (lenOf pd_1 rfl) (Nat.le_refl _) rfl (hb hby d14_7) (pc' := 10) rfl (fun T117 L117 v117 X117 hQ117 => ?_)
  obtain ⟨rfl, N117q, e117⟩ := hQ117
  have N117 := Fr.app N0 N117q
  have X117 : Stand p l e ({ frames := 1, cells := 0, slots := 0, locals := 40 } : Room) s m _ below meth c T117 _ 0 0 := X117
  show Go p e below s 0 0 (fun r h L => r = some (.long v) ∧ Fr n0 L ∧ Keep h0 h [ob] ∧ Fld Z h ob "com/example/inwrap/inwrap/CborReader" "position" "I" (.int (p_ + 1).toInt32) ∧ Fld Z h ob "com/example/inwrap/inwrap/CborReader" "input" "[B" (.ref ar)) T117 (mkF m 10 #[.val (.ref ob), .val (.int x1), .val (.int p_.toInt32), .unset, .unset, .unset, .unset, .unset, .unset] [])
  refine w_aloadN X117 hx (hb hby d14_10) (pc' := 11) rfl rfl rfl ?_
  refine w_getF X117 hx hZ hown e117 F_input (hw _ (List.mem_of_getElem? (i := 71) rfl)) (hb hby d14_11) (pc' := 14) rfl (fun T118 X118 e118 => ?_)
  refine w_aloadN X118 hx (hb hby d14_14) (pc' := 15) rfl rfl rfl ?_
  refine w_getF X118 hx hZ hown e118 F_position (hw _ (List.mem_of_getElem? (i := 82) rfl)) (hb hby d14_15) (pc' := 18) rfl (fun T119 X119 e119 => ?_)
  refine w_baload X119 hx hZ e119 V_ar (v := fb) (own_nneg (by omega)) (by rw [own_nat (by omega)]; exact hfb) (hb hby d14_18) (pc' := 19) rfl ?_
  refine w_sipush (v := 255) X119 hx (hb hby d14_19) (pc' := 22) rfl rfl ?_
  refine w_iand X119 hx (hb hby d14_22) (pc' := 23) rfl ?_
  refine w_istoreN (Ls' := #[.val (.ref ob), .val (.int x1), .val (.int p_.toInt32), .val (.int (fb &&& (255 : Int32))), .unset, .unset, .unset, .unset, .unset]) X119 hx (hb hby d14_23) (pc' := 24) rfl rfl ?_
  refine w_iloadN X119 hx (hb hby d14_24) (pc' := 25) rfl rfl ?_
  refine w_iconst (v := 5) X119 hx (hb hby d14_25) (pc' := 26) rfl rfl ?_
  refine w_iushr X119 hx (hb hby d14_26) (pc' := 27) rfl ?_
  refine w_iloadN X119 hx (hb hby d14_27) (pc' := 28) rfl rfl ?_
  have hf28 : (jushr (fb &&& (255 : Int32)) (5 : Int32)) = x1 := hmt
  refine w_icmp_eq X119 hx (hb hby d14_28) (pf := 31) (pt := 57) rfl (by decide) (by decide) (fun hc28 => ?_) (fun hc => absurd hf28 hc)
  refine w_iloadN X119 hx (hb hby d14_57) (pc' := 58) rfl rfl ?_
  refine w_bipush (v := 31) X119 hx (hb hby d14_58) (pc' := 60) rfl rfl ?_
  refine w_iand X119 hx (hb hby d14_60) (pc' := 61) rfl ?_
  refine w_istore (Ls' := #[.val (.ref ob), .val (.int x1), .val (.int p_.toInt32), .val (.int (fb &&& (255 : Int32))), .val (.int ((fb &&& (255 : Int32)) &&& (31 : Int32))), .unset, .unset, .unset, .unset]) X119 hx (hb hby d14_61) (pc' := 63) rfl rfl ?_
  refine w_aloadN X119 hx (hb hby d14_63) (pc' := 64) rfl rfl rfl ?_
  refine w_dup X119 hx (hb hby d14_64) (pc' := 65) rfl rfl ?_
  refine w_getF X119 hx hZ hown e119 F_position (hw _ (List.mem_of_getElem? (i := 82) rfl)) (hb hby d14_65) (pc' := 68) rfl (fun T120 X120 e120 => ?_)
  refine w_iconst (v := 1) X120 hx (hb hby d14_68) (pc' := 69) rfl rfl ?_
  refine w_iadd X120 hx (hb hby d14_69) (pc' := 70) rfl ?_
  rw [own_iinc (n := p_) (by omega)]
  refine w_putF X120 hx hZ hown e120 F_position E_ob (hw _ (List.mem_of_getElem? (i := 82) rfl)) (Or.inl (hw _ (List.mem_of_getElem? (i := 83) rfl))) (hw _ (List.mem_of_getElem? (i := 65) rfl)) (ty := .int) (by decide) rfl rfl (hb hby d14_70) (pc' := 73) rfl (fun T121 h121 X121 e121 W121 => ?_)
  have F121 := F_position.same W121
  have KP121 := KP0.wr W121 (Or.inl (by simp))
  have N121 := Fr.snoc X121 N117 g_ob
  have zn121 : n0 ≤ h121.size := by rw [W121.size]; exact Z0
  refine w_iload X121 hx (hb hby d14_73) (pc' := 75) rfl rfl ?_
  refine w_bipush (v := 24) X121 hx (hb hby d14_75) (pc' := 77) rfl rfl ?_
  have hf77 : ((fb &&& (255 : Int32)) &&& (31 : Int32)) < (24 : Int32) := hin
  refine w_icmp_ge X121 hx (hb hby d14_77) (pf := 80) (pt := 84) rfl (by decide) (by decide) (fun hc => absurd hf77 hc) (fun hc77 => ?_)
  refine w_iload X121 hx (hb hby d14_80) (pc' := 82) rfl rfl ?_
  refine w_i2l X121 hx (hb hby d14_82) (pc' := 83) rfl ?_
  have f122 := F_input.other W121 (Or.inr (slot_ne (Or.inr (hw _ (List.mem_of_getElem? (i := 72) rfl))) (Or.inl (hw _ (List.mem_of_getElem? (i := 83) rfl))) (by decide) (t := (.array .byte)) (t' := .int) (by decide) (by decide)))
  exact w_retJ X121 hx hret hlk (hb hby d14_83) (by decide) (by decide) (by rw [e121]; exact ⟨by rw [hv], N121, KP121, F121, f122⟩)
set_option maxRecDepth 65536 in
set_option maxHeartbeats 40000000 in
theorem rm14l (l : Launch) (Z : State) (a0 : Array Value) (hw : ∀ d ∈ tables_1, d.before a0 Z = true) (ob : Addr) (x1 : Int32) (h0 : Heap) (n0 : Nat) (Z0 : n0 ≤ h0.size) (ar : Addr) (vs post : List Int32) (p_ k : Nat) (v : Int64) (fb i4 : Int32) (E_ob : Exa Z h0 ob "com/example/inwrap/inwrap/CborReader") (g_ob : n0 ≤ ob) (F_input : Fld Z h0 ob "com/example/inwrap/inwrap/CborReader" "input" "[B" (.ref ar)) (F_position : Fld Z h0 ob "com/example/inwrap/inwrap/CborReader" "position" "I" (.int p_.toInt32)) (V_ar : AI Z h0 ar .byte vs) (nao : ar ≠ ob) (hd : vs.drop p_ = fb :: (own_by v k ++ post)) (hmt : (jushr (fb &&& (255 : Int32)) (5 : Int32)) = x1) (hi : ((fb &&& (255 : Int32)) &&& (31 : Int32)) = i4) (h24 : ¬ (i4 < (24 : Int32))) (h27 : ¬ ((27 : Int32) < i4)) (hk : ((1 : Int32) <<< ((i4 - (24 : Int32)) &&& 31)) = k.toInt32) (hk8 : k ≤ 8) (hlt : v.toBitVec.toNat < 256 ^ k) (hpl : p_ + 1 + k ≤ vs.length) (hl : vs.length ≤ 50) :
    Con l Z (⟨"com/example/inwrap/inwrap/CborReader", "readArgument", "(I)J"⟩ : MethodName) prog_2_method_20_code 9 (some .long) ({ frames := 1, cells := 0, slots := 0, locals := 40 } : Room) #[(.ref ob), (.int x1)] h0 (fun r h L => r = some (.long v) ∧ Fr n0 L ∧ Keep h0 h [ob] ∧ Fld Z h ob "com/example/inwrap/inwrap/CborReader" "position" "I" (.int (p_ + 1 + k).toInt32) ∧ Fld Z h ob "com/example/inwrap/inwrap/CborReader" "input" "[B" (.ref ar)) := by
  refine Con.of (plainFor_of_name (by first | (simp [plainName, overriddenIn]; done) | decide +kernel)) ?_
  intro p e s m below meth c T X hx hZ hby hml hown hnm hret hlk e0
  rw [ef_14]
  have N0 := Fr.nil n0
  have KP0 := Keep.refl h0 [ob]
  show Go p e below s 0 0 (fun r h L => r = some (.long v) ∧ Fr n0 L ∧ Keep h0 h [ob] ∧ Fld Z h ob "com/example/inwrap/inwrap/CborReader" "position" "I" (.int (p_ + 1 + k).toInt32) ∧ Fld Z h ob "com/example/inwrap/inwrap/CborReader" "input" "[B" (.ref ar)) T (mkF m 0 #[.val (.ref ob), .val (.int x1), .unset, .unset, .unset, .unset, .unset, .unset, .unset] [])
  refine w_aloadN X hx (hb hby d14_0) (pc' := 1) rfl rfl rfl ?_
  refine w_getF X hx hZ hown e0 F_position (hw _ (List.mem_of_getElem? (i := 82) rfl)) (hb hby d14_1) (pc' := 4) rfl (fun T123 X123 e123 => ?_)
  refine w_istoreN (Ls' := #[.val (.ref ob), .val (.int x1), .val (.int p_.toInt32), .unset, .unset, .unset, .unset, .unset, .unset]) X123 hx (hb hby d14_4) (pc' := 5) rfl rfl ?_
  refine w_aloadN X123 hx (hb hby d14_5) (pc' := 6) rfl rfl rfl ?_
  refine w_iconst (v := 1) X123 hx (hb hby d14_6) (pc' := 7) rfl rfl ?_
  refine w_callP (argsL := [(.int (1 : Int32))]) (rest := []) (a := ob) X123 hx hZ hown e123 E_ob (rm15 l Z a0 hw ob (1 : Int32) h0 n0 Z0 ar vs p_ F_input F_position V_ar (own_nd1 (by omega) (by omega))) (hw _ (List.mem_of_getElem? (i := 84) rfl)) (hw _ (List.mem_of_getElem? (i := 85) rfl)) (own_selp (hw _ (List.mem_of_getElem? (i := 65) rfl)) (hw _ (List.mem_of_getElem? (i := 86) rfl)) (hw _ (List.mem_of_getElem? (i := 85) rfl)) (by decide)) (hw _ (List.mem_of_getElem? (i := 86) rfl)) (hw _ (List.mem_of_getElem? (i := 66) rfl)) (hw _ (List.mem_of_getElem? (i := 87) rfl)) (by decide) (by decide) (W := 0) (by decide) (by decide) (by decide) (by rw [hml]; rfl) (lenOf pd_1 rfl) (Nat.le_refl _) rfl (hb hby d14_7) (pc' := 10) rfl (fun T124 L124 v124 X124 hQ124 => ?_)
  obtain ⟨rfl, N124q, e124⟩ := hQ124
  have N124 := Fr.app N0 N124q
  have X124 : Stand p l e ({ frames := 1, cells := 0, slots := 0, locals := 40 } : Room) s m _ below meth c T124 _ 0 0 := X124
  show Go p e below s 0 0 (fun r h L => r = some (.long v) ∧ Fr n0 L ∧ Keep h0 h [ob] ∧ Fld Z h ob "com/example/inwrap/inwrap/CborReader" "position" "I" (.int (p_ + 1 + k).toInt32) ∧ Fld Z h ob "com/example/inwrap/inwrap/CborReader" "input" "[B" (.ref ar)) T124 (mkF m 10 #[.val (.ref ob), .val (.int x1), .val (.int p_.toInt32), .unset, .unset, .unset, .unset, .unset, .unset] [])
  refine w_aloadN X124 hx (hb hby d14_10) (pc' := 11) rfl rfl rfl ?_
  refine w_getF X124 hx hZ hown e124 F_input (hw _ (List.mem_of_getElem? (i := 71) rfl)) (hb hby d14_11) (pc' := 14) rfl (fun T125 X125 e125 => ?_)
  refine w_aloadN X125 hx (hb hby d14_14) (pc' := 15) rfl rfl rfl ?_
  refine w_getF X125 hx hZ hown e125 F_position (hw _ (List.mem_of_getElem? (i := 82) rfl)) (hb hby d14_15) (pc' := 18) rfl (fun T126 X126 e126 => ?_)
  refine w_baload X126 hx hZ e126 V_ar (v := fb) (own_nneg (by omega)) (by rw [own_nat (by omega)]; exact own_at hd) (hb hby d14_18) (pc' := 19) rfl ?_
  refine w_sipush (v := 255) X126 hx (hb hby d14_19) (pc' := 22) rfl rfl ?_
  refine w_iand X126 hx (hb hby d14_22) (pc' := 23) rfl ?_
  refine w_istoreN (Ls' := #[.val (.ref ob), .val (.int x1), .val (.int p_.toInt32), .val (.int (fb &&& (255 : Int32))), .unset, .unset, .unset, .unset, .unset]) X126 hx (hb hby d14_23) (pc' := 24) rfl rfl ?_
  refine w_iloadN X126 hx (hb hby d14_24) (pc' := 25) rfl rfl ?_
  refine w_iconst (v := 5) X126 hx (hb hby d14_25) (pc' := 26) rfl rfl ?_
  refine w_iushr X126 hx (hb hby d14_26) (pc' := 27) rfl ?_
  refine w_iloadN X126 hx (hb hby d14_27) (pc' := 28) rfl rfl ?_
  have hf28 : (jushr (fb &&& (255 : Int32)) (5 : Int32)) = x1 := hmt
  refine w_icmp_eq X126 hx (hb hby d14_28) (pf := 31) (pt := 57) rfl (by decide) (by decide) (fun hc28 => ?_) (fun hc => absurd hf28 hc)
  refine w_iloadN X126 hx (hb hby d14_57) (pc' := 58) rfl rfl ?_
  refine w_bipush (v := 31) X126 hx (hb hby d14_58) (pc' := 60) rfl rfl ?_
  refine w_iand X126 hx (hb hby d14_60) (pc' := 61) rfl ?_
  refine w_istore (Ls' := #[.val (.ref ob), .val (.int x1), .val (.int p_.toInt32), .val (.int (fb &&& (255 : Int32))), .val (.int ((fb &&& (255 : Int32)) &&& (31 : Int32))), .unset, .unset, .unset, .unset]) X126 hx (hb hby d14_61) (pc' := 63) rfl rfl ?_
  rw [hi]
  refine w_aloadN X126 hx (hb hby d14_63) (pc' := 64) rfl rfl rfl ?_
  refine w_dup X126 hx (hb hby d14_64) (pc' := 65) rfl rfl ?_
  refine w_getF X126 hx hZ hown e126 F_position (hw _ (List.mem_of_getElem? (i := 82) rfl)) (hb hby d14_65) (pc' := 68) rfl (fun T127 X127 e127 => ?_)
  refine w_iconst (v := 1) X127 hx (hb hby d14_68) (pc' := 69) rfl rfl ?_
  refine w_iadd X127 hx (hb hby d14_69) (pc' := 70) rfl ?_
  rw [own_iinc (n := p_) (by omega)]
  refine w_putF X127 hx hZ hown e127 F_position E_ob (hw _ (List.mem_of_getElem? (i := 82) rfl)) (Or.inl (hw _ (List.mem_of_getElem? (i := 83) rfl))) (hw _ (List.mem_of_getElem? (i := 65) rfl)) (ty := .int) (by decide) rfl rfl (hb hby d14_70) (pc' := 73) rfl (fun T128 h128 X128 e128 W128 => ?_)
  have F128 := F_position.same W128
  have KP128 := KP0.wr W128 (Or.inl (by simp))
  have N128 := Fr.snoc X128 N124 g_ob
  have zn128 : n0 ≤ h128.size := by rw [W128.size]; exact Z0
  refine w_iload X128 hx (hb hby d14_73) (pc' := 75) rfl rfl ?_
  refine w_bipush (v := 24) X128 hx (hb hby d14_75) (pc' := 77) rfl rfl ?_
  have hf77 : ¬ (i4 < (24 : Int32)) := h24
  refine w_icmp_ge X128 hx (hb hby d14_77) (pf := 80) (pt := 84) rfl (by decide) (by decide) (fun hc77 => ?_) (fun hc => absurd hc hf77)
  refine w_iload X128 hx (hb hby d14_84) (pc' := 86) rfl rfl ?_
  refine w_bipush (v := 27) X128 hx (hb hby d14_86) (pc' := 88) rfl rfl ?_
  have hf88 : ¬ ((27 : Int32) < i4) := h27
  refine w_icmp_le X128 hx (hb hby d14_88) (pf := 91) (pt := 121) rfl (by decide) (by decide) (fun hc88 => ?_) (fun hc => absurd hc hf88)
  refine w_iconst (v := 1) X128 hx (hb hby d14_121) (pc' := 122) rfl rfl ?_
  refine w_iload X128 hx (hb hby d14_122) (pc' := 124) rfl rfl ?_
  refine w_bipush (v := 24) X128 hx (hb hby d14_124) (pc' := 126) rfl rfl ?_
  refine w_isub X128 hx (hb hby d14_126) (pc' := 127) rfl ?_
  refine w_ishl X128 hx (hb hby d14_127) (pc' := 128) rfl ?_
  refine w_istore (Ls' := #[.val (.ref ob), .val (.int x1), .val (.int p_.toInt32), .val (.int (fb &&& (255 : Int32))), .val (.int i4), .val (.int ((1 : Int32) <<< ((i4 - (24 : Int32)) &&& 31))), .unset, .unset, .unset]) X128 hx (hb hby d14_128) (pc' := 130) rfl rfl ?_
  rw [hk]
  refine w_aloadN X128 hx (hb hby d14_130) (pc' := 131) rfl rfl rfl ?_
  refine w_iload X128 hx (hb hby d14_131) (pc' := 133) rfl rfl ?_
  have f130 := F_input.other W128 (Or.inr (slot_ne (Or.inr (hw _ (List.mem_of_getElem? (i := 72) rfl))) (Or.inl (hw _ (List.mem_of_getElem? (i := 83) rfl))) (by decide) (t := (.array .byte)) (t' := .int) (by decide) (by decide)))
  have f131 := V_ar.other W128 nao
  have f132 := E_ob.wr W128
  refine w_callP (argsL := [(.int k.toInt32)]) (rest := []) (a := ob) X128 hx hZ hown e128 f132 (rm15 l Z a0 hw ob k.toInt32 h128 n0 zn128 ar vs (p_ + 1) f130 F128 f131 (own_ndk (by omega) (by omega))) (hw _ (List.mem_of_getElem? (i := 84) rfl)) (hw _ (List.mem_of_getElem? (i := 85) rfl)) (own_selp (hw _ (List.mem_of_getElem? (i := 65) rfl)) (hw _ (List.mem_of_getElem? (i := 86) rfl)) (hw _ (List.mem_of_getElem? (i := 85) rfl)) (by decide)) (hw _ (List.mem_of_getElem? (i := 86) rfl)) (hw _ (List.mem_of_getElem? (i := 66) rfl)) (hw _ (List.mem_of_getElem? (i := 87) rfl)) (by decide) (by decide) (W := 0) (by decide) (by decide) (by decide) (by rw [hml]; rfl) (lenOf pd_1 rfl) (Nat.le_refl _) rfl (hb hby d14_133) (pc' := 136) rfl (fun T129 L129 v129 X129 hQ129 => ?_)
  obtain ⟨rfl, N129q, e129⟩ := hQ129
  have N129 := Fr.app N128 N129q
  have X129 : Stand p l e ({ frames := 1, cells := 0, slots := 0, locals := 40 } : Room) s m _ below meth c T129 _ 0 0 := X129
  show Go p e below s 0 0 (fun r h L => r = some (.long v) ∧ Fr n0 L ∧ Keep h0 h [ob] ∧ Fld Z h ob "com/example/inwrap/inwrap/CborReader" "position" "I" (.int (p_ + 1 + k).toInt32) ∧ Fld Z h ob "com/example/inwrap/inwrap/CborReader" "input" "[B" (.ref ar)) T129 (mkF m 136 #[.val (.ref ob), .val (.int x1), .val (.int p_.toInt32), .val (.int (fb &&& (255 : Int32))), .val (.int i4), .val (.int k.toInt32), .unset, .unset, .unset] [])
  refine w_lconst (v := 0) X129 hx (hb hby d14_136) (pc' := 137) rfl rfl ?_
  refine w_lstore (Ls' := #[.val (.ref ob), .val (.int x1), .val (.int p_.toInt32), .val (.int (fb &&& (255 : Int32))), .val (.int i4), .val (.int k.toInt32), .val (.long (0 : Int64)), .second, .unset]) X129 hx (hb hby d14_137) (pc' := 139) rfl rfl ?_
  refine w_iconst (v := 0) X129 hx (hb hby d14_139) (pc' := 140) rfl rfl ?_
  refine w_istore (Ls' := #[.val (.ref ob), .val (.int x1), .val (.int p_.toInt32), .val (.int (fb &&& (255 : Int32))), .val (.int i4), .val (.int k.toInt32), .val (.long (0 : Int64)), .second, .val (.int (0 : Int32))]) X129 hx (hb hby d14_140) (pc' := 142) rfl rfl ?_
  exact lr hx hZ hw hby hml hown hret hlk x1 _ _ i4 v ob ar vs post k (p_ + 1 + k) g_ob nao hk8 (by omega) k _ _ _ (p_ + 1) 0 _ _ X129 e129 N129 zn128 KP128 f132 f130 F128 f131 rfl (Nat.zero_add _) rfl (own_at2 hd) (own_acc0 hlt)
theorem rm14 (l : Launch) (Z : State) (a0 : Array Value) (hw : ∀ d ∈ tables_1, d.before a0 Z = true) (ob : Addr) (x1 : Int32) (h0 : Heap) (n0 : Nat) (Z0 : n0 ≤ h0.size) (ar : Addr) (vs post : List Int32) (p_ P : Nat) (v : Int64) (E_ob : Exa Z h0 ob "com/example/inwrap/inwrap/CborReader") (g_ob : n0 ≤ ob) (F_input : Fld Z h0 ob "com/example/inwrap/inwrap/CborReader" "input" "[B" (.ref ar)) (F_position : Fld Z h0 ob "com/example/inwrap/inwrap/CborReader" "position" "I" (.int p_.toInt32)) (V_ar : AI Z h0 ar .byte vs) (nao : ar ≠ ob) (hx1 : x1 = 0 ∨ x1 = 1) (hd : vs.drop p_ = own_hd x1 v ++ post) (hP : P = p_ + (own_hd x1 v).length) (hl : vs.length ≤ 50) :
    Con l Z (⟨"com/example/inwrap/inwrap/CborReader", "readArgument", "(I)J"⟩ : MethodName) prog_2_method_20_code 9 (some .long) ({ frames := 1, cells := 0, slots := 0, locals := 40 } : Room) #[.ref ob, .int x1] h0 (fun r h L => r = some (.long v) ∧ Fr n0 L ∧ Keep h0 h [ob] ∧ Fld Z h ob "com/example/inwrap/inwrap/CborReader" "position" "I" (.int P.toInt32) ∧ Fld Z h ob "com/example/inwrap/inwrap/CborReader" "input" "[B" (.ref ar)) := by
  have hlen := congrArg List.length hd
  rw [List.length_drop, List.length_append] at hlen
  have hge := own_hd_len x1 v
  by_cases c0 : v < (0 : Int64)
  · have hH : own_hd x1 v = own_l x1 (27 : Int32) v 8 := by rw [own_hd, if_pos c0]
    have hll := own_l_len x1 (27 : Int32) v 8
    rw [hH] at hd hP hlen
    subst hP
    obtain ⟨f1, f2⟩ := own_lf (i := (27 : Int32)) hx1 (by decide)
    rw [show p_ + (own_l x1 (27 : Int32) v 8).length = p_ + 1 + 8 from by omega]
    exact rm14l l Z a0 hw ob x1 h0 n0 Z0 ar vs post p_ 8 v _ (27 : Int32) E_ob g_ob F_input F_position V_ar nao hd f1 f2 (by decide) (by decide) (by decide) (by decide) (v.toBitVec.isLt) (by omega) hl
  by_cases c1 : v < (24 : Int64)
  · have hH : own_hd x1 v = [(((x1 <<< ((5 : Int32) &&& 31))).toInt64 ||| v).toInt32.toInt8.toInt32] := by rw [own_hd, if_neg c0, if_pos c1]
    rw [hH] at hd hP hlen
    subst hP
    obtain ⟨f1, f2, f3⟩ := own_sf hx1 c0 c1
    exact rm14s l Z a0 hw ob x1 h0 n0 Z0 ar vs p_ v _ E_ob g_ob F_input F_position V_ar nao (own_at hd) f1 f2 f3 (by simp at hlen; omega) hl
  by_cases c2 : (255 : Int64) < v
  · by_cases c3 : (65535 : Int64) < v
    · by_cases c4 : (4294967295 : Int64) < v
      · have hH : own_hd x1 v = own_l x1 (27 : Int32) v 8 := by rw [own_hd, if_neg c0, if_neg c1, if_pos c2, if_pos c3, if_pos c4]
        have hll := own_l_len x1 (27 : Int32) v 8
        rw [hH] at hd hP hlen
        subst hP
        obtain ⟨f1, f2⟩ := own_lf (i := (27 : Int32)) hx1 (by decide)
        rw [show p_ + (own_l x1 (27 : Int32) v 8).length = p_ + 1 + 8 from by omega]
        exact rm14l l Z a0 hw ob x1 h0 n0 Z0 ar vs post p_ 8 v _ (27 : Int32) E_ob g_ob F_input F_position V_ar nao hd f1 f2 (by decide) (by decide) (by decide) (by decide) (v.toBitVec.isLt) (by omega) hl
      · have hH : own_hd x1 v = own_l x1 (26 : Int32) v 4 := by rw [own_hd, if_neg c0, if_neg c1, if_pos c2, if_pos c3, if_neg c4]
        have hll := own_l_len x1 (26 : Int32) v 4
        rw [hH] at hd hP hlen
        subst hP
        obtain ⟨f1, f2⟩ := own_lf (i := (26 : Int32)) hx1 (by decide)
        rw [show p_ + (own_l x1 (26 : Int32) v 4).length = p_ + 1 + 4 from by omega]
        exact rm14l l Z a0 hw ob x1 h0 n0 Z0 ar vs post p_ 4 v _ (26 : Int32) E_ob g_ob F_input F_position V_ar nao hd f1 f2 (by decide) (by decide) (by decide) (by decide) (own_vb 4 c0 c4 (by decide)) (by omega) hl
    · have hH : own_hd x1 v = own_l x1 (25 : Int32) v 2 := by rw [own_hd, if_neg c0, if_neg c1, if_pos c2, if_neg c3]
      have hll := own_l_len x1 (25 : Int32) v 2
      rw [hH] at hd hP hlen
      subst hP
      obtain ⟨f1, f2⟩ := own_lf (i := (25 : Int32)) hx1 (by decide)
      rw [show p_ + (own_l x1 (25 : Int32) v 2).length = p_ + 1 + 2 from by omega]
      exact rm14l l Z a0 hw ob x1 h0 n0 Z0 ar vs post p_ 2 v _ (25 : Int32) E_ob g_ob F_input F_position V_ar nao hd f1 f2 (by decide) (by decide) (by decide) (by decide) (own_vb 2 c0 c3 (by decide)) (by omega) hl
  · have hH : own_hd x1 v = own_l x1 (24 : Int32) v 1 := by rw [own_hd, if_neg c0, if_neg c1, if_neg c2]
    have hll := own_l_len x1 (24 : Int32) v 1
    rw [hH] at hd hP hlen
    subst hP
    obtain ⟨f1, f2⟩ := own_lf (i := (24 : Int32)) hx1 (by decide)
    rw [show p_ + (own_l x1 (24 : Int32) v 1).length = p_ + 1 + 1 from by omega]
    exact rm14l l Z a0 hw ob x1 h0 n0 Z0 ar vs post p_ 1 v _ (24 : Int32) E_ob g_ob F_input F_position V_ar nao hd f1 f2 (by decide) (by decide) (by decide) (by decide) (own_vb 1 c0 c2 (by decide)) (by omega) hl
theorem d13_0 : decode prog_2_method_6_code 0 = .ok (.aload_n 0, 1) := by decide +kernel
theorem d13_1 : decode prog_2_method_6_code 1 = .ok (.iconst 0, 1) := by decide +kernel
theorem d13_2 : decode prog_2_method_6_code 2 = .ok (.invokevirtual 50, 3) := by decide +kernel
theorem d13_5 : decode prog_2_method_6_code 5 = .ok (.lreturn, 1) := by decide +kernel
theorem ef_13 (m : MethodId) (ob : Addr) : entryFrame m #[(.ref ob)] 1 = mkF m 0 #[.val (.ref ob)] [] := by first | (simp [entryFrame, mkF, argsToLocals, Value.category]; done) | rfl
set_option maxRecDepth 65536 in
set_option maxHeartbeats 40000000 in
theorem rm13 (l : Launch) (Z : State) (a0 : Array Value) (hw : ∀ d ∈ tables_1, d.before a0 Z = true) (ob : Addr) (h0 : Heap) (n0 : Nat) (Z0 : n0 ≤ h0.size) (ar : Addr) (vs post : List Int32) (p_ P : Nat) (v : Int64) (E_ob : Exa Z h0 ob "com/example/inwrap/inwrap/CborReader") (g_ob : n0 ≤ ob) (F_input : Fld Z h0 ob "com/example/inwrap/inwrap/CborReader" "input" "[B" (.ref ar)) (F_position : Fld Z h0 ob "com/example/inwrap/inwrap/CborReader" "position" "I" (.int p_.toInt32)) (V_ar : AI Z h0 ar .byte vs) (nao : ar ≠ ob) (hd : vs.drop p_ = own_hd (0 : Int32) v ++ post) (hP : P = p_ + (own_hd (0 : Int32) v).length) (hl : vs.length ≤ 50) :
    Con l Z (⟨"com/example/inwrap/inwrap/CborReader", "readUnsigned", "()J"⟩ : MethodName) prog_2_method_6_code 1 (some .long) ({ frames := 2, cells := 0, slots := 0, locals := 80 } : Room) #[(.ref ob)] h0 (fun r h L => r = some (.long v) ∧ Fr n0 L ∧ Keep h0 h [ob] ∧ Fld Z h ob "com/example/inwrap/inwrap/CborReader" "position" "I" (.int P.toInt32) ∧ Fld Z h ob "com/example/inwrap/inwrap/CborReader" "input" "[B" (.ref ar)) := by
  refine Con.of (plainFor_of_name (by first | (simp [plainName, overriddenIn]; done) | decide +kernel)) ?_
  intro p e s m below meth c T X hx hZ hby hml hown hnm hret hlk e0
  rw [ef_13]
  have N0 := Fr.nil n0
  have KP0 := Keep.refl h0 [ob]
  show Go p e below s 0 0 (fun r h L => r = some (.long v) ∧ Fr n0 L ∧ Keep h0 h [ob] ∧ Fld Z h ob "com/example/inwrap/inwrap/CborReader" "position" "I" (.int P.toInt32) ∧ Fld Z h ob "com/example/inwrap/inwrap/CborReader" "input" "[B" (.ref ar)) T (mkF m 0 #[.val (.ref ob)] [])
  refine w_aloadN X hx (hb hby d13_0) (pc' := 1) rfl rfl rfl ?_
  refine w_iconst (v := 0) X hx (hb hby d13_1) (pc' := 2) rfl rfl ?_
  refine w_callP (argsL := [(.int (0 : Int32))]) (rest := []) (a := ob) X hx hZ hown e0 E_ob (rm14 l Z a0 hw ob (0 : Int32) h0 n0 Z0 ar vs post p_ P v E_ob g_ob F_input F_position V_ar nao (by decide) hd hP hl) (hw _ (List.mem_of_getElem? (i := 78) rfl)) (hw _ (List.mem_of_getElem? (i := 79) rfl)) (own_selp (hw _ (List.mem_of_getElem? (i := 65) rfl)) (hw _ (List.mem_of_getElem? (i := 80) rfl)) (hw _ (List.mem_of_getElem? (i := 79) rfl)) (by decide)) (hw _ (List.mem_of_getElem? (i := 80) rfl)) (hw _ (List.mem_of_getElem? (i := 66) rfl)) (hw _ (List.mem_of_getElem? (i := 81) rfl)) (by decide) (by decide) (W := 0) (by decide) (by decide) (by decide) (by rw [hml]; rfl) (lenOf pd_3 rfl) (Nat.le_refl _) rfl (hb hby d13_2) (pc' := 5) rfl (fun T133 L133 v133 X133 hQ133 => ?_)
  obtain ⟨rfl, N133q, K133, Fp133, Fi133⟩ := hQ133
  have zn133 : n0 ≤ T133.heap.size := Nat.le_trans Z0 K133.1
  have KP133 := KP0.trans K133 (allS (Or.inl (by simp)) all0)
  have N133 := Fr.app N0 N133q
  have X133 : Stand p l e ({ frames := 2, cells := 0, slots := 0, locals := 80 } : Room) s m _ below meth c T133 _ 0 0 := X133
  show Go p e below s 0 0 (fun r h L => r = some (.long v) ∧ Fr n0 L ∧ Keep h0 h [ob] ∧ Fld Z h ob "com/example/inwrap/inwrap/CborReader" "position" "I" (.int P.toInt32) ∧ Fld Z h ob "com/example/inwrap/inwrap/CborReader" "input" "[B" (.ref ar)) T133 (mkF m 5 #[.val (.ref ob)] [(.long v)])
  exact w_retJ X133 hx hret hlk (hb hby d13_5) (by decide) (by decide) (by exact ⟨rfl, N133, KP133, Fp133, Fi133⟩)
theorem d16_0 : decode prog_2_method_7_code 0 = .ok (.aload_n 0, 1) := by decide +kernel
theorem d16_1 : decode prog_2_method_7_code 1 = .ok (.iconst 1, 1) := by decide +kernel
theorem d16_2 : decode prog_2_method_7_code 2 = .ok (.invokevirtual 50, 3) := by decide +kernel
theorem d16_5 : decode prog_2_method_7_code 5 = .ok (.lreturn, 1) := by decide +kernel
theorem ef_16 (m : MethodId) (ob : Addr) : entryFrame m #[(.ref ob)] 1 = mkF m 0 #[.val (.ref ob)] [] := by first | (simp [entryFrame, mkF, argsToLocals, Value.category]; done) | rfl
set_option maxRecDepth 65536 in
set_option maxHeartbeats 40000000 in
theorem rm16 (l : Launch) (Z : State) (a0 : Array Value) (hw : ∀ d ∈ tables_1, d.before a0 Z = true) (ob : Addr) (h0 : Heap) (n0 : Nat) (Z0 : n0 ≤ h0.size) (ar : Addr) (vs post : List Int32) (p_ P : Nat) (v : Int64) (E_ob : Exa Z h0 ob "com/example/inwrap/inwrap/CborReader") (g_ob : n0 ≤ ob) (F_input : Fld Z h0 ob "com/example/inwrap/inwrap/CborReader" "input" "[B" (.ref ar)) (F_position : Fld Z h0 ob "com/example/inwrap/inwrap/CborReader" "position" "I" (.int p_.toInt32)) (V_ar : AI Z h0 ar .byte vs) (nao : ar ≠ ob) (hd : vs.drop p_ = own_hd (1 : Int32) v ++ post) (hP : P = p_ + (own_hd (1 : Int32) v).length) (hl : vs.length ≤ 50) :
    Con l Z (⟨"com/example/inwrap/inwrap/CborReader", "readNegative", "()J"⟩ : MethodName) prog_2_method_7_code 1 (some .long) ({ frames := 2, cells := 0, slots := 0, locals := 80 } : Room) #[(.ref ob)] h0 (fun r h L => r = some (.long v) ∧ Fr n0 L ∧ Keep h0 h [ob] ∧ Fld Z h ob "com/example/inwrap/inwrap/CborReader" "position" "I" (.int P.toInt32) ∧ Fld Z h ob "com/example/inwrap/inwrap/CborReader" "input" "[B" (.ref ar)) := by
  refine Con.of (plainFor_of_name (by first | (simp [plainName, overriddenIn]; done) | decide +kernel)) ?_
  intro p e s m below meth c T X hx hZ hby hml hown hnm hret hlk e0
  rw [ef_16]
  have N0 := Fr.nil n0
  have KP0 := Keep.refl h0 [ob]
  show Go p e below s 0 0 (fun r h L => r = some (.long v) ∧ Fr n0 L ∧ Keep h0 h [ob] ∧ Fld Z h ob "com/example/inwrap/inwrap/CborReader" "position" "I" (.int P.toInt32) ∧ Fld Z h ob "com/example/inwrap/inwrap/CborReader" "input" "[B" (.ref ar)) T (mkF m 0 #[.val (.ref ob)] [])
  refine w_aloadN X hx (hb hby d16_0) (pc' := 1) rfl rfl rfl ?_
  refine w_iconst (v := 1) X hx (hb hby d16_1) (pc' := 2) rfl rfl ?_
  refine w_callP (argsL := [(.int (1 : Int32))]) (rest := []) (a := ob) X hx hZ hown e0 E_ob (rm14 l Z a0 hw ob (1 : Int32) h0 n0 Z0 ar vs post p_ P v E_ob g_ob F_input F_position V_ar nao (by decide) hd hP hl) (hw _ (List.mem_of_getElem? (i := 78) rfl)) (hw _ (List.mem_of_getElem? (i := 79) rfl)) (own_selp (hw _ (List.mem_of_getElem? (i := 65) rfl)) (hw _ (List.mem_of_getElem? (i := 80) rfl)) (hw _ (List.mem_of_getElem? (i := 79) rfl)) (by decide)) (hw _ (List.mem_of_getElem? (i := 80) rfl)) (hw _ (List.mem_of_getElem? (i := 66) rfl)) (hw _ (List.mem_of_getElem? (i := 81) rfl)) (by decide) (by decide) (W := 0) (by decide) (by decide) (by decide) (by rw [hml]; rfl) (lenOf pd_3 rfl) (Nat.le_refl _) rfl (hb hby d16_2) (pc' := 5) rfl (fun T134 L134 v134 X134 hQ134 => ?_)
  obtain ⟨rfl, N134q, K134, Fp134, Fi134⟩ := hQ134
  have zn134 : n0 ≤ T134.heap.size := Nat.le_trans Z0 K134.1
  have KP134 := KP0.trans K134 (allS (Or.inl (by simp)) all0)
  have N134 := Fr.app N0 N134q
  have X134 : Stand p l e ({ frames := 2, cells := 0, slots := 0, locals := 80 } : Room) s m _ below meth c T134 _ 0 0 := X134
  show Go p e below s 0 0 (fun r h L => r = some (.long v) ∧ Fr n0 L ∧ Keep h0 h [ob] ∧ Fld Z h ob "com/example/inwrap/inwrap/CborReader" "position" "I" (.int P.toInt32) ∧ Fld Z h ob "com/example/inwrap/inwrap/CborReader" "input" "[B" (.ref ar)) T134 (mkF m 5 #[.val (.ref ob)] [(.long v)])
  exact w_retJ X134 hx hret hlk (hb hby d16_5) (by decide) (by decide) (by exact ⟨rfl, N134, KP134, Fp134, Fi134⟩)
theorem d17_0 : decode prog_2_method_3_code 0 = .ok (.aload_n 0, 1) := by decide +kernel
theorem d17_1 : decode prog_2_method_3_code 1 = .ok (.getfield 32, 3) := by decide +kernel
theorem d17_4 : decode prog_2_method_3_code 4 = .ok (.ireturn, 1) := by decide +kernel
theorem ef_17 (m : MethodId) (ob : Addr) : entryFrame m #[(.ref ob)] 1 = mkF m 0 #[.val (.ref ob)] [] := by first | (simp [entryFrame, mkF, argsToLocals, Value.category]; done) | rfl
set_option maxRecDepth 65536 in
set_option maxHeartbeats 40000000 in
theorem rm17 (l : Launch) (Z : State) (a0 : Array Value) (hw : ∀ d ∈ tables_1, d.before a0 Z = true) (ob : Addr) (h0 : Heap) (n0 : Nat) (Z0 : n0 ≤ h0.size) (f : Int32) (F_position : Fld Z h0 ob "com/example/inwrap/inwrap/CborReader" "position" "I" (.int f)) :
    Con l Z (⟨"com/example/inwrap/inwrap/CborReader", "position", "()I"⟩ : MethodName) prog_2_method_3_code 1 (some .int) ({ frames := 0, cells := 0, slots := 0, locals := 0 } : Room) #[(.ref ob)] h0 (QP (some (.int f)) h0 n0) := by
  refine Con.of (plainFor_of_name (by first | (simp [plainName, overriddenIn]; done) | decide +kernel)) ?_
  intro p e s m below meth c T X hx hZ hby hml hown hnm hret hlk e0
  rw [ef_17]
  have N0 := Fr.nil n0
  show Go p e below s 0 0 (QP (some (.int f)) h0 n0) T (mkF m 0 #[.val (.ref ob)] [])
  refine w_aloadN X hx (hb hby d17_0) (pc' := 1) rfl rfl rfl ?_
  refine w_getF X hx hZ hown e0 F_position (hw _ (List.mem_of_getElem? (i := 82) rfl)) (hb hby d17_1) (pc' := 4) rfl (fun T135 X135 e135 => ?_)
  exact w_retI X135 hx hret hlk (hb hby d17_4) (by decide) (by decide) ⟨rfl, N0, e135⟩
theorem d12_0 : decode prog_2_method_1_code 0 = .ok (.aload_n 0, 1) := by decide +kernel
theorem d12_1 : decode prog_2_method_1_code 1 = .ok (.invokespecial 1, 3) := by decide +kernel
theorem d12_4 : decode prog_2_method_1_code 4 = .ok (.aload_n 0, 1) := by decide +kernel
theorem d12_5 : decode prog_2_method_1_code 5 = .ok (.aload_n 1, 1) := by decide +kernel
theorem d12_6 : decode prog_2_method_1_code 6 = .ok (.putfield 7, 3) := by decide +kernel
theorem d12_9 : decode prog_2_method_1_code 9 = .ok (.return_, 1) := by decide +kernel
theorem ef_12 (m : MethodId) (ob : Addr) (x1 : Addr) : entryFrame m #[(.ref ob), (.ref x1)] 2 = mkF m 0 #[.val (.ref ob), .val (.ref x1)] [] := by first | (simp [entryFrame, mkF, argsToLocals, Value.category]; done) | rfl
set_option maxRecDepth 65536 in
set_option maxHeartbeats 40000000 in
theorem rm12 (l : Launch) (Z : State) (a0 : Array Value) (hw : ∀ d ∈ tables_1, d.before a0 Z = true) (ob : Addr) (x1 : Addr) (h0 : Heap) (n0 : Nat) (Z0 : n0 ≤ h0.size) (E_ob : Exa Z h0 ob "com/example/inwrap/inwrap/CborReader") (g_ob : n0 ≤ ob) (F_input : Fld Z h0 ob "com/example/inwrap/inwrap/CborReader" "input" "[B" .null) (F_position : Fld Z h0 ob "com/example/inwrap/inwrap/CborReader" "position" "I" (.int (0 : Int32))) :
    Con l Z (⟨"com/example/inwrap/inwrap/CborReader", "<init>", "([B)V"⟩ : MethodName) prog_2_method_1_code 2 none ({ frames := 1, cells := 0, slots := 0, locals := 16 } : Room) #[(.ref ob), (.ref x1)] h0 (fun v h L => v = none ∧ Fr n0 L ∧ Keep h0 h [ob] ∧ Fld Z h ob "com/example/inwrap/inwrap/CborReader" "input" "[B" (.ref x1) ∧ Fld Z h ob "com/example/inwrap/inwrap/CborReader" "position" "I" (.int (0 : Int32))) := by
  refine Con.of (plainFor_of_name (by first | (simp [plainName, overriddenIn]; done) | decide +kernel)) ?_
  intro p e s m below meth c T X hx hZ hby hml hown hnm hret hlk e0
  rw [ef_12]
  have N0 := Fr.nil n0
  have KP0 := Keep.refl h0 [ob]
  show Go p e below s 0 0 (fun v h L => v = none ∧ Fr n0 L ∧ Keep h0 h [ob] ∧ Fld Z h ob "com/example/inwrap/inwrap/CborReader" "input" "[B" (.ref x1) ∧ Fld Z h ob "com/example/inwrap/inwrap/CborReader" "position" "I" (.int (0 : Int32))) T (mkF m 0 #[.val (.ref ob), .val (.ref x1)] [])
  refine w_aloadN X hx (hb hby d12_0) (pc' := 1) rfl rfl rfl ?_
  refine w_initO X hx hZ hown e0 (hw _ (List.mem_of_getElem? (i := 70) rfl)) (hw _ (List.mem_of_getElem? (i := 7) rfl)) (hw _ (List.mem_of_getElem? (i := 8) rfl)) (by rw [hml]; rfl) (hb hby d12_1) (by decide) (W := 0) (by decide) (by decide) (pc' := 4) rfl (fun T136 X136 e136 => ?_)
  refine w_aloadN X136 hx (hb hby d12_4) (pc' := 5) rfl rfl rfl ?_
  refine w_aloadN X136 hx (hb hby d12_5) (pc' := 6) rfl rfl rfl ?_
  refine w_putF X136 hx hZ hown e136 F_input E_ob (hw _ (List.mem_of_getElem? (i := 71) rfl)) (Or.inr ⟨(hw _ (List.mem_of_getElem? (i := 72) rfl)), rfl, hnm⟩) (hw _ (List.mem_of_getElem? (i := 65) rfl)) (ty := (.array .byte)) (by decide) rfl rfl (hb hby d12_6) (pc' := 9) rfl (fun T137 h137 X137 e137 W137 => ?_)
  have F137 := F_input.same W137
  have KP137 := KP0.wr W137 (Or.inl (by simp))
  have N137 := Fr.snoc X137 N0 g_ob
  have zn137 : n0 ≤ h137.size := by rw [W137.size]; exact Z0
  have f138 := F_position.other W137 (Or.inr (slot_ne (Or.inl (hw _ (List.mem_of_getElem? (i := 83) rfl))) (Or.inr (hw _ (List.mem_of_getElem? (i := 72) rfl))) (by decide) (t := .int) (t' := (.array .byte)) (by decide) (by decide)))
  exact w_retV X137 hx hret hlk (hb hby d12_9) (by decide) (by decide) (by rw [e137]; exact ⟨rfl, N137, KP137, F137, f138⟩)
theorem d11_0 : decode method_2_code 0 = .ok (.lload_n 0, 1) := by decide +kernel
theorem d11_1 : decode method_2_code 1 = .ok (.lconst 0, 1) := by decide +kernel
theorem d11_2 : decode method_2_code 2 = .ok (.lcmp, 1) := by decide +kernel
theorem d11_3 : decode method_2_code 3 = .ok (.ifCond .lt 13, 3) := by decide +kernel
theorem d11_6 : decode method_2_code 6 = .ok (.lload_n 0, 1) := by decide +kernel
theorem d11_7 : decode method_2_code 7 = .ok (.ldc2_w 7, 3) := by decide +kernel
theorem d11_10 : decode method_2_code 10 = .ok (.lcmp, 1) := by decide +kernel
theorem d11_11 : decode method_2_code 11 = .ok (.ifCond .ge 5, 3) := by decide +kernel
theorem d11_14 : decode method_2_code 14 = .ok (.iconst 1, 1) := by decide +kernel
theorem d11_15 : decode method_2_code 15 = .ok (.ireturn, 1) := by decide +kernel
theorem d11_16 : decode method_2_code 16 = .ok (.lload_n 0, 1) := by decide +kernel
theorem d11_17 : decode method_2_code 17 = .ok (.lconst 0, 1) := by decide +kernel
theorem d11_18 : decode method_2_code 18 = .ok (.lcmp, 1) := by decide +kernel
theorem d11_19 : decode method_2_code 19 = .ok (.ifCond .lt 13, 3) := by decide +kernel
theorem d11_22 : decode method_2_code 22 = .ok (.lload_n 0, 1) := by decide +kernel
theorem d11_23 : decode method_2_code 23 = .ok (.ldc2_w 9, 3) := by decide +kernel
theorem d11_26 : decode method_2_code 26 = .ok (.lcmp, 1) := by decide +kernel
theorem d11_27 : decode method_2_code 27 = .ok (.ifCond .gt 5, 3) := by decide +kernel
theorem d11_30 : decode method_2_code 30 = .ok (.iconst 2, 1) := by decide +kernel
theorem d11_31 : decode method_2_code 31 = .ok (.ireturn, 1) := by decide +kernel
theorem d11_32 : decode method_2_code 32 = .ok (.lload_n 0, 1) := by decide +kernel
theorem d11_33 : decode method_2_code 33 = .ok (.lconst 0, 1) := by decide +kernel
theorem d11_34 : decode method_2_code 34 = .ok (.lcmp, 1) := by decide +kernel
theorem d11_35 : decode method_2_code 35 = .ok (.ifCond .lt 13, 3) := by decide +kernel
theorem d11_38 : decode method_2_code 38 = .ok (.lload_n 0, 1) := by decide +kernel
theorem d11_39 : decode method_2_code 39 = .ok (.ldc2_w 11, 3) := by decide +kernel
theorem d11_42 : decode method_2_code 42 = .ok (.lcmp, 1) := by decide +kernel
theorem d11_43 : decode method_2_code 43 = .ok (.ifCond .gt 5, 3) := by decide +kernel
theorem d11_46 : decode method_2_code 46 = .ok (.iconst 3, 1) := by decide +kernel
theorem d11_47 : decode method_2_code 47 = .ok (.ireturn, 1) := by decide +kernel
theorem d11_48 : decode method_2_code 48 = .ok (.lload_n 0, 1) := by decide +kernel
theorem d11_49 : decode method_2_code 49 = .ok (.lconst 0, 1) := by decide +kernel
theorem d11_50 : decode method_2_code 50 = .ok (.lcmp, 1) := by decide +kernel
theorem d11_51 : decode method_2_code 51 = .ok (.ifCond .lt 13, 3) := by decide +kernel
theorem d11_54 : decode method_2_code 54 = .ok (.lload_n 0, 1) := by decide +kernel
theorem d11_55 : decode method_2_code 55 = .ok (.ldc2_w 13, 3) := by decide +kernel
theorem d11_58 : decode method_2_code 58 = .ok (.lcmp, 1) := by decide +kernel
theorem d11_59 : decode method_2_code 59 = .ok (.ifCond .gt 5, 3) := by decide +kernel
theorem d11_62 : decode method_2_code 62 = .ok (.iconst 5, 1) := by decide +kernel
theorem d11_63 : decode method_2_code 63 = .ok (.ireturn, 1) := by decide +kernel
theorem d11_64 : decode method_2_code 64 = .ok (.bipush 9, 2) := by decide +kernel
theorem d11_66 : decode method_2_code 66 = .ok (.ireturn, 1) := by decide +kernel
def K11_48 (x0 : Int64) : Int32 :=
  (if x0 < (0 : Int64) then (9 : Int32)
  else (if (4294967295 : Int64) < x0 then (9 : Int32)
   else (5 : Int32)))
set_option maxRecDepth 65536 in
set_option maxHeartbeats 4000000 in
theorem bk11_48 {p : Program} {l : Launch} {e : Env} {s : State} {m : MethodId} {args : Array Value} {below : List Frame} {meth : Method} {c : Code} {T : State} {locs : List Loc} {Z : State} {a0 : Array Value} {h0 : Heap} {n0 : Nat} (X : Stand p l e ({ frames := 0, cells := 0, slots := 0, locals := 0 } : Room) s m args below meth c T locs 0 0) (hx : p.tables.exec = Jvm.exec) (hZ : Z.Warmed39 s.vm) (hw : ∀ d ∈ tables_1, d.before a0 Z = true) (hby : c.code = method_2_code) (hml : c.maxLocals = 2) (hown : s.vm.findClass "com/example/inwrap/inwrap/CborWriterToByteArrayPinLaw" = some m.cls) (hret : meth.sig.returnType = (some .int)) (hlk : meth.locks = false) (e0 : T.heap = h0) (N0 : Fr n0 locs) (x0 : Int64) :
    Go p e below s 0 0 (QP (some (.int (K11_48 x0))) h0 n0) T (mkF m 48 #[.val (.long x0), .second] []) := by
  rw [K11_48]
  refine w_lloadN X hx (hb hby d11_48) (pc' := 49) rfl rfl ?_
  refine w_lconst (v := 0) X hx (hb hby d11_49) (pc' := 50) rfl rfl ?_
  refine w_lcmp X hx (hb hby d11_50) (pc' := 51) rfl ?_
  refine w_ifL_lt X hx (hb hby d11_51) (pf := 54) (pt := 64) rfl (by decide) (by decide) (fun hc51 => ?_) (fun hc51 => ?_)
  · rw [if_pos hc51]
    refine w_bipush (v := 9) X hx (hb hby d11_64) (pc' := 66) rfl rfl ?_
    exact w_retI X hx hret hlk (hb hby d11_66) (by decide) (by decide) ⟨rfl, N0, e0⟩
  · rw [if_neg hc51]
    refine w_lloadN X hx (hb hby d11_54) (pc' := 55) rfl rfl ?_
    refine w_ldc2 X hx hZ hown (hw _ (List.mem_of_getElem? (i := 63) rfl)) (hb hby d11_55) (pc' := 58) rfl ?_
    refine w_lcmp X hx (hb hby d11_58) (pc' := 59) rfl ?_
    refine w_ifL_gt X hx (hb hby d11_59) (pf := 62) (pt := 64) rfl (by decide) (by decide) (fun hc59 => ?_) (fun hc59 => ?_)
    · rw [if_pos hc59]
      refine w_bipush (v := 9) X hx (hb hby d11_64) (pc' := 66) rfl rfl ?_
      exact w_retI X hx hret hlk (hb hby d11_66) (by decide) (by decide) ⟨rfl, N0, e0⟩
    · rw [if_neg hc59]
      refine w_iconst (v := 5) X hx (hb hby d11_62) (pc' := 63) rfl rfl ?_
      exact w_retI X hx hret hlk (hb hby d11_63) (by decide) (by decide) ⟨rfl, N0, e0⟩
def K11_32 (x0 : Int64) : Int32 :=
  (if x0 < (0 : Int64) then (K11_48 x0)
  else (if (65535 : Int64) < x0 then (K11_48 x0)
   else (3 : Int32)))
set_option maxRecDepth 65536 in
set_option maxHeartbeats 4000000 in
theorem bk11_32 {p : Program} {l : Launch} {e : Env} {s : State} {m : MethodId} {args : Array Value} {below : List Frame} {meth : Method} {c : Code} {T : State} {locs : List Loc} {Z : State} {a0 : Array Value} {h0 : Heap} {n0 : Nat} (X : Stand p l e ({ frames := 0, cells := 0, slots := 0, locals := 0 } : Room) s m args below meth c T locs 0 0) (hx : p.tables.exec = Jvm.exec) (hZ : Z.Warmed39 s.vm) (hw : ∀ d ∈ tables_1, d.before a0 Z = true) (hby : c.code = method_2_code) (hml : c.maxLocals = 2) (hown : s.vm.findClass "com/example/inwrap/inwrap/CborWriterToByteArrayPinLaw" = some m.cls) (hret : meth.sig.returnType = (some .int)) (hlk : meth.locks = false) (e0 : T.heap = h0) (N0 : Fr n0 locs) (x0 : Int64) :
    Go p e below s 0 0 (QP (some (.int (K11_32 x0))) h0 n0) T (mkF m 32 #[.val (.long x0), .second] []) := by
  rw [K11_32]
  refine w_lloadN X hx (hb hby d11_32) (pc' := 33) rfl rfl ?_
  refine w_lconst (v := 0) X hx (hb hby d11_33) (pc' := 34) rfl rfl ?_
  refine w_lcmp X hx (hb hby d11_34) (pc' := 35) rfl ?_
  refine w_ifL_lt X hx (hb hby d11_35) (pf := 38) (pt := 48) rfl (by decide) (by decide) (fun hc35 => ?_) (fun hc35 => ?_)
  · rw [if_pos hc35]
    exact bk11_48 X hx hZ hw hby hml hown hret hlk e0 N0 x0
  · rw [if_neg hc35]
    refine w_lloadN X hx (hb hby d11_38) (pc' := 39) rfl rfl ?_
    refine w_ldc2 X hx hZ hown (hw _ (List.mem_of_getElem? (i := 62) rfl)) (hb hby d11_39) (pc' := 42) rfl ?_
    refine w_lcmp X hx (hb hby d11_42) (pc' := 43) rfl ?_
    refine w_ifL_gt X hx (hb hby d11_43) (pf := 46) (pt := 48) rfl (by decide) (by decide) (fun hc43 => ?_) (fun hc43 => ?_)
    · rw [if_pos hc43]
      exact bk11_48 X hx hZ hw hby hml hown hret hlk e0 N0 x0
    · rw [if_neg hc43]
      refine w_iconst (v := 3) X hx (hb hby d11_46) (pc' := 47) rfl rfl ?_
      exact w_retI X hx hret hlk (hb hby d11_47) (by decide) (by decide) ⟨rfl, N0, e0⟩
def K11_16 (x0 : Int64) : Int32 :=
  (if x0 < (0 : Int64) then (K11_32 x0)
  else (if (255 : Int64) < x0 then (K11_32 x0)
   else (2 : Int32)))
set_option maxRecDepth 65536 in
set_option maxHeartbeats 4000000 in
theorem bk11_16 {p : Program} {l : Launch} {e : Env} {s : State} {m : MethodId} {args : Array Value} {below : List Frame} {meth : Method} {c : Code} {T : State} {locs : List Loc} {Z : State} {a0 : Array Value} {h0 : Heap} {n0 : Nat} (X : Stand p l e ({ frames := 0, cells := 0, slots := 0, locals := 0 } : Room) s m args below meth c T locs 0 0) (hx : p.tables.exec = Jvm.exec) (hZ : Z.Warmed39 s.vm) (hw : ∀ d ∈ tables_1, d.before a0 Z = true) (hby : c.code = method_2_code) (hml : c.maxLocals = 2) (hown : s.vm.findClass "com/example/inwrap/inwrap/CborWriterToByteArrayPinLaw" = some m.cls) (hret : meth.sig.returnType = (some .int)) (hlk : meth.locks = false) (e0 : T.heap = h0) (N0 : Fr n0 locs) (x0 : Int64) :
    Go p e below s 0 0 (QP (some (.int (K11_16 x0))) h0 n0) T (mkF m 16 #[.val (.long x0), .second] []) := by
  rw [K11_16]
  refine w_lloadN X hx (hb hby d11_16) (pc' := 17) rfl rfl ?_
  refine w_lconst (v := 0) X hx (hb hby d11_17) (pc' := 18) rfl rfl ?_
  refine w_lcmp X hx (hb hby d11_18) (pc' := 19) rfl ?_
  refine w_ifL_lt X hx (hb hby d11_19) (pf := 22) (pt := 32) rfl (by decide) (by decide) (fun hc19 => ?_) (fun hc19 => ?_)
  · rw [if_pos hc19]
    exact bk11_32 X hx hZ hw hby hml hown hret hlk e0 N0 x0
  · rw [if_neg hc19]
    refine w_lloadN X hx (hb hby d11_22) (pc' := 23) rfl rfl ?_
    refine w_ldc2 X hx hZ hown (hw _ (List.mem_of_getElem? (i := 61) rfl)) (hb hby d11_23) (pc' := 26) rfl ?_
    refine w_lcmp X hx (hb hby d11_26) (pc' := 27) rfl ?_
    refine w_ifL_gt X hx (hb hby d11_27) (pf := 30) (pt := 32) rfl (by decide) (by decide) (fun hc27 => ?_) (fun hc27 => ?_)
    · rw [if_pos hc27]
      exact bk11_32 X hx hZ hw hby hml hown hret hlk e0 N0 x0
    · rw [if_neg hc27]
      refine w_iconst (v := 2) X hx (hb hby d11_30) (pc' := 31) rfl rfl ?_
      exact w_retI X hx hret hlk (hb hby d11_31) (by decide) (by decide) ⟨rfl, N0, e0⟩
def K11_0 (x0 : Int64) : Int32 :=
  (if x0 < (0 : Int64) then (K11_16 x0)
  else (if x0 < (24 : Int64) then (1 : Int32)
   else (K11_16 x0)))
set_option maxRecDepth 65536 in
set_option maxHeartbeats 4000000 in
theorem bk11_0 {p : Program} {l : Launch} {e : Env} {s : State} {m : MethodId} {args : Array Value} {below : List Frame} {meth : Method} {c : Code} {T : State} {locs : List Loc} {Z : State} {a0 : Array Value} {h0 : Heap} {n0 : Nat} (X : Stand p l e ({ frames := 0, cells := 0, slots := 0, locals := 0 } : Room) s m args below meth c T locs 0 0) (hx : p.tables.exec = Jvm.exec) (hZ : Z.Warmed39 s.vm) (hw : ∀ d ∈ tables_1, d.before a0 Z = true) (hby : c.code = method_2_code) (hml : c.maxLocals = 2) (hown : s.vm.findClass "com/example/inwrap/inwrap/CborWriterToByteArrayPinLaw" = some m.cls) (hret : meth.sig.returnType = (some .int)) (hlk : meth.locks = false) (e0 : T.heap = h0) (N0 : Fr n0 locs) (x0 : Int64) :
    Go p e below s 0 0 (QP (some (.int (K11_0 x0))) h0 n0) T (mkF m 0 #[.val (.long x0), .second] []) := by
  rw [K11_0]
  refine w_lloadN X hx (hb hby d11_0) (pc' := 1) rfl rfl ?_
  refine w_lconst (v := 0) X hx (hb hby d11_1) (pc' := 2) rfl rfl ?_
  refine w_lcmp X hx (hb hby d11_2) (pc' := 3) rfl ?_
  refine w_ifL_lt X hx (hb hby d11_3) (pf := 6) (pt := 16) rfl (by decide) (by decide) (fun hc3 => ?_) (fun hc3 => ?_)
  · rw [if_pos hc3]
    exact bk11_16 X hx hZ hw hby hml hown hret hlk e0 N0 x0
  · rw [if_neg hc3]
    refine w_lloadN X hx (hb hby d11_6) (pc' := 7) rfl rfl ?_
    refine w_ldc2 X hx hZ hown (hw _ (List.mem_of_getElem? (i := 60) rfl)) (hb hby d11_7) (pc' := 10) rfl ?_
    refine w_lcmp X hx (hb hby d11_10) (pc' := 11) rfl ?_
    refine w_ifL_ge X hx (hb hby d11_11) (pf := 14) (pt := 16) rfl (by decide) (by decide) (fun hc11 => ?_) (fun hc11 => ?_)
    · rw [if_neg hc11]
      exact bk11_16 X hx hZ hw hby hml hown hret hlk e0 N0 x0
    · rw [if_pos hc11]
      refine w_iconst (v := 1) X hx (hb hby d11_14) (pc' := 15) rfl rfl ?_
      exact w_retI X hx hret hlk (hb hby d11_15) (by decide) (by decide) ⟨rfl, N0, e0⟩
theorem ef_11 (m : MethodId) (x0 : Int64) : entryFrame m #[(.long x0)] 2 = mkF m 0 #[.val (.long x0), .second] [] := by first | (simp [entryFrame, mkF, argsToLocals, Value.category]; done) | rfl
theorem rm11 (l : Launch) (Z : State) (a0 : Array Value) (hw : ∀ d ∈ tables_1, d.before a0 Z = true) (x0 : Int64) (h0 : Heap) (n0 : Nat) :
    Con l Z (⟨"com/example/inwrap/inwrap/CborWriterToByteArrayPinLaw", "headLen", "(J)I"⟩ : MethodName) method_2_code 2 (some .int) ({ frames := 0, cells := 0, slots := 0, locals := 0 } : Room) #[(.long x0)] h0 (QP (some (.int (K11_0 x0))) h0 n0) := by
  refine Con.of (plainFor_of_name (by first | (simp [plainName, overriddenIn]; done) | decide +kernel)) ?_
  intro p e s m below meth c T X hx hZ hby hml hown hnm hret hlk e0
  rw [ef_11]
  exact bk11_0 X hx hZ hw hby hml hown hret hlk e0 (Fr.nil n0) x0
theorem own_hl (x1 : Int32) (v : Int64) : K11_0 v = (own_hd x1 v).length.toInt32 := by
  by_cases c0 : v < (0 : Int64)
  · simp +decide only [K11_48, K11_32, K11_16, K11_0, own_hd, c0, if_true, if_false, ↓reduceIte, own_l_len]
  by_cases c1 : v < (24 : Int64)
  · simp +decide only [K11_48, K11_32, K11_16, K11_0, own_hd, c0, c1, if_true, if_false, ↓reduceIte, own_l_len]
    rfl
  by_cases c2 : (255 : Int64) < v
  · by_cases c3 : (65535 : Int64) < v
    · by_cases c4 : (4294967295 : Int64) < v
      · simp +decide only [K11_48, K11_32, K11_16, K11_0, own_hd, c0, c1, c2, c3, c4, if_true, if_false, ↓reduceIte, own_l_len]
      · simp +decide only [K11_48, K11_32, K11_16, K11_0, own_hd, c0, c1, c2, c3, c4, if_true, if_false, ↓reduceIte, own_l_len]
    · simp +decide only [K11_48, K11_32, K11_16, K11_0, own_hd, c0, c1, c2, c3, if_true, if_false, ↓reduceIte, own_l_len]
  · simp +decide only [K11_48, K11_32, K11_16, K11_0, own_hd, c0, c1, c2, if_true, if_false, ↓reduceIte, own_l_len]
theorem own_iadd {a b : Nat} (h : a + b < 2147483648) : a.toInt32 + b.toInt32 = (a + b).toInt32 := by
  apply own_toInt
  rw [Jvm.Kit.i32_add (by rw [own_i (by omega), own_i (by omega)]; omega) (by rw [own_i (by omega), own_i (by omega)]; omega), own_i (by omega), own_i (by omega), own_i (by omega)]
  omega
theorem own_exp2 {vx vy : Int64} {ex : Int32} (h : ex = ((K11_0 vx) + (K11_0 vy))) : ((own_hd (0 : Int32) vx).length + (own_hd (1 : Int32) vy).length).toInt32 = ex := by
  have h1 := own_hd_len (0 : Int32) vx
  have h2 := own_hd_len (1 : Int32) vy
  rw [h, own_hl 0 vx, own_hl 1 vy, own_iadd (by omega)]
theorem own_exp {vx vy : Int64} {ex : Int32} (h : ex = ((K11_0 vx) + (K11_0 vy))) : ((own_hd (0 : Int32) vx) ++ (own_hd (1 : Int32) vy)).length.toInt32 = ex := by
  rw [List.length_append]; exact own_exp2 h
theorem own_pos (vx vy : Int64) : 0 < ((own_hd (0 : Int32) vx) ++ (own_hd (1 : Int32) vy)).length ∧ ((own_hd (0 : Int32) vx) ++ (own_hd (1 : Int32) vy)).length ≤ 50 := by
  have h1 := own_hd_len (0 : Int32) vx
  have h2 := own_hd_len (1 : Int32) vy
  rw [List.length_append]; omega
theorem own_n18 (vx vy : Int64) : ((own_hd (0 : Int32) vx).length + (own_hd (1 : Int32) vy).length) ≤ 18 := by
  have h1 := own_hd_len (0 : Int32) vx
  have h2 := own_hd_len (1 : Int32) vy
  omega
theorem ef_0 (m : MethodId) (x0 : Int32) (x1 : Int64) (x2 : Int32) (x3 : Int64) (x4 : Int32) : entryFrame m #[(.int x0), (.long x1), (.int x2), (.long x3), (.int x4)] maxLocals = mkF m 0 #[.val (.int x0), .val (.long x1), .second, .val (.int x2), .val (.long x3), .second, .val (.int x4), .unset, .unset, .unset, .unset, .unset, .unset, .unset, .unset, .unset, .unset, .unset, .unset, .unset, .unset, .unset] [] := by first | (simp [entryFrame, mkF, argsToLocals, Value.category, maxLocals]; done) | rfl
set_option maxRecDepth 65536 in
set_option maxHeartbeats 40000000 in
theorem rm0 (l : Launch) (Z : State) (a0 : Array Value) (hw : ∀ d ∈ tables_1, d.before a0 Z = true) (x0 : Int32) (x1 : Int64) (x2 : Int32) (x3 : Int64) (x4 : Int32) (h0 : Heap) (n0 : Nat) (Z0 : n0 ≤ h0.size) :
    Con l Z x code maxLocals ret room_1 #[(.int x0), (.long x1), (.int x2), (.long x3), (.int x4)] h0 (QL (some (.int 1)) n0) := by
  refine Con.of (plainFor_of_name (by first | (simp [plainName, overriddenIn]; done) | decide +kernel)) ?_
  intro p e s m below meth c T X hx hZ hby hml hown hnm hret hlk e0
  rw [ef_0]
  have N0 := Fr.nil n0
  have hcap : 0 ≤ (x0 &&& (31 : Int32)).toInt ∧ (x0 &&& (31 : Int32)).toInt ≤ 31 := by have := own_m x0 31 (k := 5) (by decide) (by decide); omega
  show Go p e below s room_1.cells room_1.slots (QL (some (.int 1)) n0) T (mkF m 0 #[.val (.int x0), .val (.long x1), .second, .val (.int x2), .val (.long x3), .second, .val (.int x4), .unset, .unset, .unset, .unset, .unset, .unset, .unset, .unset, .unset, .unset, .unset, .unset, .unset, .unset, .unset] [])
  refine w_lloadN X hx (hb hby at_0) (pc' := 1) rfl rfl ?_
  refine w_iloadN X hx (hb hby at_1) (pc' := 2) rfl rfl ?_
  refine w_bipush (v := 63) X hx (hb hby at_2) (pc' := 4) rfl rfl ?_
  refine w_iand X hx (hb hby at_4) (pc' := 5) rfl ?_
  refine w_lushr X hx (hb hby at_5) (pc' := 6) rfl ?_
  refine w_lstore (Ls' := #[.val (.int x0), .val (.long x1), .second, .val (.int x2), .val (.long x3), .second, .val (.int x4), .val (.long (jlushr x1 (x2 &&& (63 : Int32)))), .second, .unset, .unset, .unset, .unset, .unset, .unset, .unset, .unset, .unset, .unset, .unset, .unset, .unset]) X hx (hb hby at_6) (pc' := 8) rfl rfl ?_
  obtain ⟨vx, hvx⟩ : ∃ z : Int64, z = (jlushr x1 (x2 &&& (63 : Int32))) := ⟨_, rfl⟩
  rw [← hvx]
  refine w_lload X hx (hb hby at_8) (pc' := 10) rfl rfl ?_
  refine w_iload X hx (hb hby at_10) (pc' := 12) rfl rfl ?_
  refine w_bipush (v := 63) X hx (hb hby at_12) (pc' := 14) rfl rfl ?_
  refine w_iand X hx (hb hby at_14) (pc' := 15) rfl ?_
  refine w_lushr X hx (hb hby at_15) (pc' := 16) rfl ?_
  refine w_lstore (Ls' := #[.val (.int x0), .val (.long x1), .second, .val (.int x2), .val (.long x3), .second, .val (.int x4), .val (.long vx), .second, .val (.long (jlushr x3 (x4 &&& (63 : Int32)))), .second, .unset, .unset, .unset, .unset, .unset, .unset, .unset, .unset, .unset, .unset, .unset]) X hx (hb hby at_16) (pc' := 18) rfl rfl ?_
  obtain ⟨vy, hvy⟩ : ∃ z : Int64, z = (jlushr x3 (x4 &&& (63 : Int32))) := ⟨_, rfl⟩
  rw [← hvy]
  refine w_newO X hx hZ hown e0 (hw _ (List.mem_of_getElem? (i := 0) rfl)) (hw _ (List.mem_of_getElem? (i := 1) rfl)) (hw _ (List.mem_of_getElem? (i := 2) rfl)) (hb hby at_18) (by decide) (by decide) (pc' := 21) rfl (fun T139 h139 b139 X139 e139 E139 q139 A139 D139 => ?_)
  have g_b139 : n0 ≤ b139 := by rw [q139]; exact Z0
  have F_buffer_b139 : Fld Z h139 b139 "com/example/inwrap/inwrap/CborWriter" "buffer" "[B" .null := D139 (Or.inl (hw _ (List.mem_of_getElem? (i := 15) rfl))) (ty := (.array .byte)) (by decide)
  have F_size_b139 : Fld Z h139 b139 "com/example/inwrap/inwrap/CborWriter" "size" "I" (.int (0 : Int32)) := D139 (Or.inl (hw _ (List.mem_of_getElem? (i := 22) rfl))) (ty := .int) (by decide)
  have zn139 : n0 ≤ h139.size := Nat.le_trans Z0 E139.1
  refine w_dup X139 hx (hb hby at_21) (pc' := 22) rfl rfl ?_
  refine w_iloadN X139 hx (hb hby at_22) (pc' := 23) rfl rfl ?_
  refine w_bipush (v := 31) X139 hx (hb hby at_23) (pc' := 25) rfl rfl ?_
  refine w_iand X139 hx (hb hby at_25) (pc' := 26) rfl ?_
  refine w_callI (argsL := [(.int (x0 &&& (31 : Int32)))]) (rest := [(.ref b139)]) (a := b139) X139 hx hZ hown e139 (rm1 l Z a0 hw b139 (x0 &&& (31 : Int32)) h139 n0 zn139 A139 g_b139 F_buffer_b139 F_size_b139 hcap) rfl (hw _ (List.mem_of_getElem? (i := 3) rfl)) (hw _ (List.mem_of_getElem? (i := 4) rfl)) (hw _ (List.mem_of_getElem? (i := 2) rfl)) (hw _ (List.mem_of_getElem? (i := 5) rfl)) (by decide) (by decide) (W := 1) (by decide) (by decide) (by decide) (by rw [hml]; rfl) (lenOf pd_1 rfl) (Nat.le_refl _) rfl (hb hby at_26) (pc' := 29) rfl (fun T140 L140 v140 X140 hQ140 => ?_)
  obtain ⟨rfl, N140q, K140, b140, bs140, sz140, Fb140, Fs140, V140, fit140, l16140, l31140⟩ := hQ140
  have zn140 : n0 ≤ T140.heap.size := Nat.le_trans zn139 K140.1
  have g_b140 : n0 ≤ b140 := Nat.le_trans zn139 sz140
  have ne_b139_b140 : b139 ≠ b140 := Nat.ne_of_lt (Nat.lt_of_lt_of_le A139.lt sz140)
  have N140 := Fr.app N0 N140q
  have X140 : Stand p l e room_1 s m _ below meth c T140 _ 2 33 := X140
  show Go p e below s room_1.cells room_1.slots (QL (some (.int 1)) n0) T140 (mkF m 29 #[.val (.int x0), .val (.long x1), .second, .val (.int x2), .val (.long x3), .second, .val (.int x4), .val (.long vx), .second, .val (.long vy), .second, .unset, .unset, .unset, .unset, .unset, .unset, .unset, .unset, .unset, .unset, .unset] [(.ref b139)])
  refine w_astore (Ls' := #[.val (.int x0), .val (.long x1), .second, .val (.int x2), .val (.long x3), .second, .val (.int x4), .val (.long vx), .second, .val (.long vy), .second, .val (.ref b139), .unset, .unset, .unset, .unset, .unset, .unset, .unset, .unset, .unset, .unset]) X140 hx (hb hby at_29) (pc' := 31) rfl rfl rfl ?_
  refine w_aload X140 hx (hb hby at_31) (pc' := 33) rfl rfl rfl ?_
  have f142 := A139.keep K140
  refine w_callV (argsL := []) (rest := []) (a := b139) X140 hx hZ hown rfl f142 (rm4 l Z a0 hw b139 T140.heap n0 zn140 b140 bs140 0 Fb140 Fs140 V140 fit140 (Nat.zero_le _) (by decide)) (hw _ (List.mem_of_getElem? (i := 16) rfl)) (hw _ (List.mem_of_getElem? (i := 17) rfl)) (hw _ (List.mem_of_getElem? (i := 19) rfl)) (hw _ (List.mem_of_getElem? (i := 18) rfl)) (hw _ (List.mem_of_getElem? (i := 2) rfl)) (hw _ (List.mem_of_getElem? (i := 20) rfl)) (by decide) (by decide) (W := 0) (by decide) (by decide) (by decide) (by rw [hml]; rfl) (lenOf pd_4 rfl) (Nat.le_refl _) rfl (hb hby at_33) (pc' := 36) rfl (fun T141 L141 v141 X141 hQ141 => ?_)
  obtain ⟨b141, rfl, N141q, K141, sz141, V141⟩ := hQ141
  have zn141 : n0 ≤ T141.heap.size := Nat.le_trans zn140 K141.1
  have g_b141 : n0 ≤ b141 := Nat.le_trans zn140 sz141
  have ne_b139_b141 : b139 ≠ b141 := Nat.ne_of_lt (Nat.lt_of_lt_of_le f142.lt sz141)
  have ne_b140_b141 : b140 ≠ b141 := Nat.ne_of_lt (Nat.lt_of_lt_of_le V140.lt sz141)
  have N141 := Fr.app N140 N141q
  have X141 : Stand p l e room_1 s m _ below meth c T141 _ 3 51 := X141
  show Go p e below s room_1.cells room_1.slots (QL (some (.int 1)) n0) T141 (mkF m 36 #[.val (.int x0), .val (.long x1), .second, .val (.int x2), .val (.long x3), .second, .val (.int x4), .val (.long vx), .second, .val (.long vy), .second, .val (.ref b139), .unset, .unset, .unset, .unset, .unset, .unset, .unset, .unset, .unset, .unset] [(.ref b141)])
  refine w_astore (Ls' := #[.val (.int x0), .val (.long x1), .second, .val (.int x2), .val (.long x3), .second, .val (.int x4), .val (.long vx), .second, .val (.long vy), .second, .val (.ref b139), .val (.ref b141), .unset, .unset, .unset, .unset, .unset, .unset, .unset, .unset, .unset]) X141 hx (hb hby at_36) (pc' := 38) rfl rfl rfl ?_
  refine w_aload X141 hx (hb hby at_38) (pc' := 40) rfl rfl rfl ?_
  refine w_lload X141 hx (hb hby at_40) (pc' := 42) rfl rfl ?_
  have f144 := f142.keep K141
  have f145 := Fb140.keep K141 nin0
  have f146 := Fs140.keep K141 nin0
  have f147 := V140.keep K141 nin0
  refine w_callV (argsL := [(.long vx)]) (rest := []) (a := b139) X141 hx hZ hown rfl f144 (rm7 l Z a0 hw b139 vx T141.heap n0 zn141 b140 bs140 0 (own_hd (0 : Int32) vx).length (own_hd (0 : Int32) vx) f144 g_b139 g_b140 f145 f146 f147 fit140 (Ne.symm ne_b139_b140) ⟨l16140, l31140⟩ (by decide) (Nat.zero_add _).symm (by rw [List.take_zero]; rfl)) (hw _ (List.mem_of_getElem? (i := 34) rfl)) (hw _ (List.mem_of_getElem? (i := 35) rfl)) (hw _ (List.mem_of_getElem? (i := 37) rfl)) (hw _ (List.mem_of_getElem? (i := 36) rfl)) (hw _ (List.mem_of_getElem? (i := 2) rfl)) (hw _ (List.mem_of_getElem? (i := 38) rfl)) (by decide) (by decide) (W := 0) (by decide) (by decide) (by decide) (by rw [hml]; rfl) (lenOf pd_5 rfl) (Nat.le_refl _) rfl (hb hby at_42) (pc' := 45) rfl (fun T143 L143 v143 X143 hQ143 => ?_)
  obtain ⟨rfl, N143q, K143, b143, bs143, Fb143, Fs143, V143, fit143, tk143, ln143, l62143, l31143, nb143, or143⟩ := hQ143
  have zn143 : n0 ≤ T143.heap.size := Nat.le_trans zn141 K143.1
  have N143 := Fr.app N141 N143q
  have X143 : Stand p l e room_1 s m _ below meth c T143 _ 4 113 := X143
  have g_b143 : n0 ≤ b143 := or143.elim (fun q => by rw [q]; exact g_b140) (fun q => Nat.le_trans zn141 q)
  have ne_b141_b143 : b141 ≠ b143 := or143.elim (fun z => by rw [z]; exact (Ne.symm ne_b140_b141)) (fun z => Nat.ne_of_lt (Nat.lt_of_lt_of_le V141.lt z))
  show Go p e below s room_1.cells room_1.slots (QL (some (.int 1)) n0) T143 (mkF m 45 #[.val (.int x0), .val (.long x1), .second, .val (.int x2), .val (.long x3), .second, .val (.int x4), .val (.long vx), .second, .val (.long vy), .second, .val (.ref b139), .val (.ref b141), .unset, .unset, .unset, .unset, .unset, .unset, .unset, .unset, .unset] [])
  refine w_aload X143 hx (hb hby at_45) (pc' := 47) rfl rfl rfl ?_
  refine w_lload X143 hx (hb hby at_47) (pc' := 49) rfl rfl ?_
  have f149 := f144.keep K143
  have f150 := V141.keep K143 (ninS (Ne.symm ne_b139_b141) (ninS (Ne.symm ne_b140_b141) nin0))
  refine w_callV (argsL := [(.long vy)]) (rest := []) (a := b139) X143 hx hZ hown rfl f149 (rm10 l Z a0 hw b139 vy T143.heap n0 zn143 b143 bs143 (own_hd (0 : Int32) vx).length ((own_hd (0 : Int32) vx).length + (own_hd (1 : Int32) vy).length) ((own_hd (0 : Int32) vx) ++ (own_hd (1 : Int32) vy)) f149 g_b139 g_b143 Fb143 Fs143 V143 fit143 nb143 (l31143 rfl) (own_hd_len _ _).2 rfl (by rw [tk143])) (hw _ (List.mem_of_getElem? (i := 48) rfl)) (hw _ (List.mem_of_getElem? (i := 49) rfl)) (hw _ (List.mem_of_getElem? (i := 51) rfl)) (hw _ (List.mem_of_getElem? (i := 50) rfl)) (hw _ (List.mem_of_getElem? (i := 2) rfl)) (hw _ (List.mem_of_getElem? (i := 52) rfl)) (by decide) (by decide) (W := 0) (by decide) (by decide) (by decide) (by rw [hml]; rfl) (lenOf pd_5 rfl) (Nat.le_refl _) rfl (hb hby at_49) (pc' := 52) rfl (fun T148 L148 v148 X148 hQ148 => ?_)
  obtain ⟨rfl, N148q, K148, b148, bs148, Fb148, Fs148, V148, fit148, tk148, ln148, l62148, l31148, nb148, or148⟩ := hQ148
  have zn148 : n0 ≤ T148.heap.size := Nat.le_trans zn143 K148.1
  have N148 := Fr.app N143 N148q
  have X148 : Stand p l e room_1 s m _ below meth c T148 _ 5 175 := X148
  have g_b148 : n0 ≤ b148 := or148.elim (fun q => by rw [q]; exact g_b143) (fun q => Nat.le_trans zn143 q)
  have ne_b141_b148 : b141 ≠ b148 := or148.elim (fun z => by rw [z]; exact ne_b141_b143) (fun z => Nat.ne_of_lt (Nat.lt_of_lt_of_le f150.lt z))
  show Go p e below s room_1.cells room_1.slots (QL (some (.int 1)) n0) T148 (mkF m 52 #[.val (.int x0), .val (.long x1), .second, .val (.int x2), .val (.long x3), .second, .val (.int x4), .val (.long vx), .second, .val (.long vy), .second, .val (.ref b139), .val (.ref b141), .unset, .unset, .unset, .unset, .unset, .unset, .unset, .unset, .unset] [])
  refine w_aload X148 hx (hb hby at_52) (pc' := 54) rfl rfl rfl ?_
  have f152 := f149.keep K148
  have f153 := f150.keep K148 (ninS (Ne.symm ne_b139_b141) (ninS ne_b141_b143 nin0))
  refine w_callV (argsL := []) (rest := []) (a := b139) X148 hx hZ hown rfl f152 (rm4 l Z a0 hw b139 T148.heap n0 zn148 b148 bs148 ((own_hd (0 : Int32) vx).length + (own_hd (1 : Int32) vy).length) Fb148 Fs148 V148 fit148 ln148 (own_n18 vx vy)) (hw _ (List.mem_of_getElem? (i := 16) rfl)) (hw _ (List.mem_of_getElem? (i := 17) rfl)) (hw _ (List.mem_of_getElem? (i := 19) rfl)) (hw _ (List.mem_of_getElem? (i := 18) rfl)) (hw _ (List.mem_of_getElem? (i := 2) rfl)) (hw _ (List.mem_of_getElem? (i := 20) rfl)) (by decide) (by decide) (W := 0) (by decide) (by decide) (by decide) (by rw [hml]; rfl) (lenOf pd_4 rfl) (Nat.le_refl _) rfl (hb hby at_54) (pc' := 57) rfl (fun T151 L151 v151 X151 hQ151 => ?_)
  obtain ⟨b151, rfl, N151q, K151, sz151, V151⟩ := hQ151
  have zn151 : n0 ≤ T151.heap.size := Nat.le_trans zn148 K151.1
  have g_b151 : n0 ≤ b151 := Nat.le_trans zn148 sz151
  have ne_b139_b151 : b139 ≠ b151 := Nat.ne_of_lt (Nat.lt_of_lt_of_le f152.lt sz151)
  have ne_b141_b151 : b141 ≠ b151 := Nat.ne_of_lt (Nat.lt_of_lt_of_le f153.lt sz151)
  have ne_b148_b151 : b148 ≠ b151 := Nat.ne_of_lt (Nat.lt_of_lt_of_le V148.lt sz151)
  have N151 := Fr.app N148 N151q
  have X151 : Stand p l e room_1 s m _ below meth c T151 _ 6 193 := X151
  rw [tk148] at V151
  show Go p e below s room_1.cells room_1.slots (QL (some (.int 1)) n0) T151 (mkF m 57 #[.val (.int x0), .val (.long x1), .second, .val (.int x2), .val (.long x3), .second, .val (.int x4), .val (.long vx), .second, .val (.long vy), .second, .val (.ref b139), .val (.ref b141), .unset, .unset, .unset, .unset, .unset, .unset, .unset, .unset, .unset] [(.ref b151)])
  refine w_astore (Ls' := #[.val (.int x0), .val (.long x1), .second, .val (.int x2), .val (.long x3), .second, .val (.int x4), .val (.long vx), .second, .val (.long vy), .second, .val (.ref b139), .val (.ref b141), .val (.ref b151), .unset, .unset, .unset, .unset, .unset, .unset, .unset, .unset]) X151 hx (hb hby at_57) (pc' := 59) rfl rfl rfl ?_
  refine w_lload X151 hx (hb hby at_59) (pc' := 61) rfl rfl ?_
  refine w_callS (argsL := [(.long vx)]) (rest := []) X151 hx hZ hown rfl (rm11 l Z a0 hw vx T151.heap n0) (hw _ (List.mem_of_getElem? (i := 56) rfl)) (hw _ (List.mem_of_getElem? (i := 57) rfl)) (hw _ (List.mem_of_getElem? (i := 58) rfl)) (hw _ (List.mem_of_getElem? (i := 59) rfl)) (by decide) (by decide) (W := 0) (by decide) (by decide) (by decide) (by rw [hml]; rfl) (lenOf pd_6 rfl) (Nat.le_refl _) rfl (hb hby at_61) (pc' := 64) rfl (fun T154 L154 v154 X154 hQ154 => ?_)
  obtain ⟨rfl, N154q, e154⟩ := hQ154
  have N154 := Fr.app N151 N154q
  have X154 : Stand p l e room_1 s m _ below meth c T154 _ 6 193 := X154
  show Go p e below s room_1.cells room_1.slots (QL (some (.int 1)) n0) T154 (mkF m 64 #[.val (.int x0), .val (.long x1), .second, .val (.int x2), .val (.long x3), .second, .val (.int x4), .val (.long vx), .second, .val (.long vy), .second, .val (.ref b139), .val (.ref b141), .val (.ref b151), .unset, .unset, .unset, .unset, .unset, .unset, .unset, .unset] [(.int (K11_0 vx))])
  refine w_lload X154 hx (hb hby at_64) (pc' := 66) rfl rfl ?_
  refine w_callS (argsL := [(.long vy)]) (rest := [(.int (K11_0 vx))]) X154 hx hZ hown e154 (rm11 l Z a0 hw vy T151.heap n0) (hw _ (List.mem_of_getElem? (i := 56) rfl)) (hw _ (List.mem_of_getElem? (i := 57) rfl)) (hw _ (List.mem_of_getElem? (i := 58) rfl)) (hw _ (List.mem_of_getElem? (i := 59) rfl)) (by decide) (by decide) (W := 1) (by decide) (by decide) (by decide) (by rw [hml]; rfl) (lenOf pd_6 rfl) (Nat.le_refl _) rfl (hb hby at_66) (pc' := 69) rfl (fun T155 L155 v155 X155 hQ155 => ?_)
  obtain ⟨rfl, N155q, e155⟩ := hQ155
  have N155 := Fr.app N154 N155q
  have X155 : Stand p l e room_1 s m _ below meth c T155 _ 6 193 := X155
  show Go p e below s room_1.cells room_1.slots (QL (some (.int 1)) n0) T155 (mkF m 69 #[.val (.int x0), .val (.long x1), .second, .val (.int x2), .val (.long x3), .second, .val (.int x4), .val (.long vx), .second, .val (.long vy), .second, .val (.ref b139), .val (.ref b141), .val (.ref b151), .unset, .unset, .unset, .unset, .unset, .unset, .unset, .unset] [(.int (K11_0 vy)), (.int (K11_0 vx))])
  refine w_iadd X155 hx (hb hby at_69) (pc' := 70) rfl ?_
  refine w_istore (Ls' := #[.val (.int x0), .val (.long x1), .second, .val (.int x2), .val (.long x3), .second, .val (.int x4), .val (.long vx), .second, .val (.long vy), .second, .val (.ref b139), .val (.ref b141), .val (.ref b151), .val (.int ((K11_0 vx) + (K11_0 vy))), .unset, .unset, .unset, .unset, .unset, .unset, .unset]) X155 hx (hb hby at_70) (pc' := 72) rfl rfl ?_
  obtain ⟨ex, hex⟩ : ∃ z : Int32, z = ((K11_0 vx) + (K11_0 vy)) := ⟨_, rfl⟩
  rw [← hex]
  refine w_aload X155 hx (hb hby at_72) (pc' := 74) rfl rfl rfl ?_
  have f156 := f153.keep K151 nin0
  refine w_alenI X155 hx hZ e155 f156 (n := (0 : Int32)) (by rw [List.take_zero]; rfl) (hb hby at_74) (pc' := 75) rfl ?_
  have hf75 : (0 : Int32) = (0 : Int32) := (by decide)
  refine w_if_ne X155 hx (hb hby at_75) (pf := 78) (pt := 86) rfl (by decide) (by decide) (fun hc => absurd hf75 hc) (fun hc75 => ?_)
  refine w_aload X155 hx (hb hby at_78) (pc' := 80) rfl rfl rfl ?_
  refine w_alenI X155 hx hZ e155 V151 (n := (((own_hd (0 : Int32) vx) ++ (own_hd (1 : Int32) vy)).length.toInt32)) rfl (hb hby at_80) (pc' := 81) rfl ?_
  refine w_iload X155 hx (hb hby at_81) (pc' := 83) rfl rfl ?_
  have hf83 : (((own_hd (0 : Int32) vx) ++ (own_hd (1 : Int32) vy)).length.toInt32) = ex := (own_exp hex)
  refine w_icmp_eq X155 hx (hb hby at_83) (pf := 86) (pt := 88) rfl (by decide) (by decide) (fun hc83 => ?_) (fun hc => absurd hf83 hc)
  refine w_aload X155 hx (hb hby at_88) (pc' := 90) rfl rfl rfl ?_
  refine w_iconst (v := 0) X155 hx (hb hby at_90) (pc' := 91) rfl rfl ?_
  refine w_baload X155 hx hZ e155 V151 (v := (((own_hd (0 : Int32) vx) ++ (own_hd (1 : Int32) vy)).getD 0 0)) (by decide) (own_getD (own_pos vx vy).1) (hb hby at_91) (pc' := 92) rfl ?_
  refine w_istore (Ls' := #[.val (.int x0), .val (.long x1), .second, .val (.int x2), .val (.long x3), .second, .val (.int x4), .val (.long vx), .second, .val (.long vy), .second, .val (.ref b139), .val (.ref b141), .val (.ref b151), .val (.int ex), .val (.int (((own_hd (0 : Int32) vx) ++ (own_hd (1 : Int32) vy)).getD 0 0)), .unset, .unset, .unset, .unset, .unset, .unset]) X155 hx (hb hby at_92) (pc' := 94) rfl rfl ?_
  refine w_aload X155 hx (hb hby at_94) (pc' := 96) rfl rfl rfl ?_
  refine w_iconst (v := 0) X155 hx (hb hby at_96) (pc' := 97) rfl rfl ?_
  refine w_iload X155 hx (hb hby at_97) (pc' := 99) rfl rfl ?_
  refine w_bipush (v := 127) X155 hx (hb hby at_99) (pc' := 101) rfl rfl ?_
  refine w_ixor X155 hx (hb hby at_101) (pc' := 102) rfl ?_
  refine w_i2b X155 hx (hb hby at_102) (pc' := 103) rfl ?_
  refine w_bastore X155 hx hZ e155 V151 (by decide) (own_pos vx vy).1 (hb hby at_103) (pc' := 104) rfl (fun T157 h157 X157 e157 W157 V157 => ?_)
  have N157 := Fr.snoc X157 N155 g_b151
  have zn157 : n0 ≤ h157.size := by rw [W157.size]; exact zn151
  refine w_aload X157 hx (hb hby at_104) (pc' := 106) rfl rfl rfl ?_
  have f159 := Fb148.keep K151 nin0
  have f160 := f159.other W157 (Or.inl ne_b139_b151)
  have f161 := Fs148.keep K151 nin0
  have f162 := f161.other W157 (Or.inl ne_b139_b151)
  have f163 := V148.keep K151 nin0
  have f164 := f163.other W157 ne_b148_b151
  have f165 := f152.keep K151
  have f166 := f165.wr W157
  have f167 := f156.other W157 ne_b141_b151
  refine w_callV (argsL := []) (rest := []) (a := b139) X157 hx hZ hown e157 f166 (rm4 l Z a0 hw b139 h157 n0 zn157 b148 bs148 ((own_hd (0 : Int32) vx).length + (own_hd (1 : Int32) vy).length) f160 f162 f164 fit148 ln148 (own_n18 vx vy)) (hw _ (List.mem_of_getElem? (i := 16) rfl)) (hw _ (List.mem_of_getElem? (i := 17) rfl)) (hw _ (List.mem_of_getElem? (i := 19) rfl)) (hw _ (List.mem_of_getElem? (i := 18) rfl)) (hw _ (List.mem_of_getElem? (i := 2) rfl)) (hw _ (List.mem_of_getElem? (i := 20) rfl)) (by decide) (by decide) (W := 0) (by decide) (by decide) (by decide) (by rw [hml]; rfl) (lenOf pd_4 rfl) (Nat.le_refl _) rfl (hb hby at_106) (pc' := 109) rfl (fun T158 L158 v158 X158 hQ158 => ?_)
  obtain ⟨b158, rfl, N158q, K158, sz158, V158⟩ := hQ158
  have zn158 : n0 ≤ T158.heap.size := Nat.le_trans zn157 K158.1
  have g_b158 : n0 ≤ b158 := Nat.le_trans zn157 sz158
  have ne_b139_b158 : b139 ≠ b158 := Nat.ne_of_lt (Nat.lt_of_lt_of_le f166.lt sz158)
  have ne_b141_b158 : b141 ≠ b158 := Nat.ne_of_lt (Nat.lt_of_lt_of_le f167.lt sz158)
  have ne_b148_b158 : b148 ≠ b158 := Nat.ne_of_lt (Nat.lt_of_lt_of_le f164.lt sz158)
  have ne_b151_b158 : b151 ≠ b158 := Nat.ne_of_lt (Nat.lt_of_lt_of_le V157.lt sz158)
  have N158 := Fr.app N157 N158q
  have X158 : Stand p l e room_1 s m _ below meth c T158 _ 7 211 := X158
  rw [tk148] at V158
  show Go p e below s room_1.cells room_1.slots (QL (some (.int 1)) n0) T158 (mkF m 109 #[.val (.int x0), .val (.long x1), .second, .val (.int x2), .val (.long x3), .second, .val (.int x4), .val (.long vx), .second, .val (.long vy), .second, .val (.ref b139), .val (.ref b141), .val (.ref b151), .val (.int ex), .val (.int (((own_hd (0 : Int32) vx) ++ (own_hd (1 : Int32) vy)).getD 0 0)), .unset, .unset, .unset, .unset, .unset, .unset] [(.ref b158)])
  refine w_astore (Ls' := #[.val (.int x0), .val (.long x1), .second, .val (.int x2), .val (.long x3), .second, .val (.int x4), .val (.long vx), .second, .val (.long vy), .second, .val (.ref b139), .val (.ref b141), .val (.ref b151), .val (.int ex), .val (.int (((own_hd (0 : Int32) vx) ++ (own_hd (1 : Int32) vy)).getD 0 0)), .val (.ref b158), .unset, .unset, .unset, .unset, .unset]) X158 hx (hb hby at_109) (pc' := 111) rfl rfl rfl ?_
  refine w_aload X158 hx (hb hby at_111) (pc' := 113) rfl rfl rfl ?_
  refine w_alenI X158 hx hZ rfl V158 (n := (((own_hd (0 : Int32) vx) ++ (own_hd (1 : Int32) vy)).length.toInt32)) rfl (hb hby at_113) (pc' := 114) rfl ?_
  refine w_iload X158 hx (hb hby at_114) (pc' := 116) rfl rfl ?_
  have hf116 : (((own_hd (0 : Int32) vx) ++ (own_hd (1 : Int32) vy)).length.toInt32) = ex := (own_exp hex)
  refine w_icmp_ne X158 hx (hb hby at_116) (pf := 119) (pt := 128) rfl (by decide) (by decide) (fun hc => absurd hf116 hc) (fun hc116 => ?_)
  refine w_aload X158 hx (hb hby at_119) (pc' := 121) rfl rfl rfl ?_
  refine w_iconst (v := 0) X158 hx (hb hby at_121) (pc' := 122) rfl rfl ?_
  refine w_baload X158 hx hZ rfl V158 (v := (((own_hd (0 : Int32) vx) ++ (own_hd (1 : Int32) vy)).getD 0 0)) (by decide) (own_getD (own_pos vx vy).1) (hb hby at_122) (pc' := 123) rfl ?_
  refine w_iload X158 hx (hb hby at_123) (pc' := 125) rfl rfl ?_
  have hf125 : (((own_hd (0 : Int32) vx) ++ (own_hd (1 : Int32) vy)).getD 0 0) = (((own_hd (0 : Int32) vx) ++ (own_hd (1 : Int32) vy)).getD 0 0) := rfl
  refine w_icmp_eq X158 hx (hb hby at_125) (pf := 128) (pt := 130) rfl (by decide) (by decide) (fun hc125 => ?_) (fun hc => absurd hf125 hc)
  refine w_newO X158 hx hZ hown rfl (hw _ (List.mem_of_getElem? (i := 64) rfl)) (hw _ (List.mem_of_getElem? (i := 65) rfl)) (hw _ (List.mem_of_getElem? (i := 66) rfl)) (hb hby at_130) (by decide) (by decide) (pc' := 133) rfl (fun T168 h168 b168 X168 e168 E168 q168 A168 D168 => ?_)
  have g_b168 : n0 ≤ b168 := by rw [q168]; exact zn158
  have f169 := f166.keep K158
  have ne_b139_b168 : b139 ≠ b168 := by rw [q168]; exact Nat.ne_of_lt f169.lt
  have f170 := f167.keep K158 nin0
  have ne_b141_b168 : b141 ≠ b168 := by rw [q168]; exact Nat.ne_of_lt f170.lt
  have f171 := f164.keep K158 nin0
  have ne_b148_b168 : b148 ≠ b168 := by rw [q168]; exact Nat.ne_of_lt f171.lt
  have f172 := V157.keep K158 nin0
  have ne_b151_b168 : b151 ≠ b168 := by rw [q168]; exact Nat.ne_of_lt f172.lt
  have ne_b158_b168 : b158 ≠ b168 := by rw [q168]; exact Nat.ne_of_lt V158.lt
  have F_input_b168 : Fld Z h168 b168 "com/example/inwrap/inwrap/CborReader" "input" "[B" .null := D168 (Or.inr (hw _ (List.mem_of_getElem? (i := 72) rfl))) (ty := (.array .byte)) (by decide)
  have F_position_b168 : Fld Z h168 b168 "com/example/inwrap/inwrap/CborReader" "position" "I" (.int (0 : Int32)) := D168 (Or.inl (hw _ (List.mem_of_getElem? (i := 83) rfl))) (ty := .int) (by decide)
  have zn168 : n0 ≤ h168.size := Nat.le_trans zn158 E168.1
  refine w_dup X168 hx (hb hby at_133) (pc' := 134) rfl rfl ?_
  refine w_aload X168 hx (hb hby at_134) (pc' := 136) rfl rfl rfl ?_
  refine w_callI (argsL := [(.ref b158)]) (rest := [(.ref b168)]) (a := b168) X168 hx hZ hown e168 (rm12 l Z a0 hw b168 b158 h168 n0 zn168 A168 g_b168 F_input_b168 F_position_b168) rfl (hw _ (List.mem_of_getElem? (i := 67) rfl)) (hw _ (List.mem_of_getElem? (i := 68) rfl)) (hw _ (List.mem_of_getElem? (i := 66) rfl)) (hw _ (List.mem_of_getElem? (i := 69) rfl)) (by decide) (by decide) (W := 1) (by decide) (by decide) (by decide) (by rw [hml]; rfl) (lenOf pd_7 rfl) (Nat.le_refl _) rfl (hb hby at_136) (pc' := 139) rfl (fun T173 L173 v173 X173 hQ173 => ?_)
  obtain ⟨rfl, N173q, K173, F_input_173, F_position_173⟩ := hQ173
  have zn173 : n0 ≤ T173.heap.size := Nat.le_trans zn168 K173.1
  have N173 := Fr.app N158 N173q
  have X173 : Stand p l e room_1 s m _ below meth c T173 _ 8 213 := X173
  show Go p e below s room_1.cells room_1.slots (QL (some (.int 1)) n0) T173 (mkF m 139 #[.val (.int x0), .val (.long x1), .second, .val (.int x2), .val (.long x3), .second, .val (.int x4), .val (.long vx), .second, .val (.long vy), .second, .val (.ref b139), .val (.ref b141), .val (.ref b151), .val (.int ex), .val (.int (((own_hd (0 : Int32) vx) ++ (own_hd (1 : Int32) vy)).getD 0 0)), .val (.ref b158), .unset, .unset, .unset, .unset, .unset] [(.ref b168)])
  refine w_astore (Ls' := #[.val (.int x0), .val (.long x1), .second, .val (.int x2), .val (.long x3), .second, .val (.int x4), .val (.long vx), .second, .val (.long vy), .second, .val (.ref b139), .val (.ref b141), .val (.ref b151), .val (.int ex), .val (.int (((own_hd (0 : Int32) vx) ++ (own_hd (1 : Int32) vy)).getD 0 0)), .val (.ref b158), .val (.ref b168), .unset, .unset, .unset, .unset]) X173 hx (hb hby at_139) (pc' := 141) rfl rfl rfl ?_
  refine w_aload X173 hx (hb hby at_141) (pc' := 143) rfl rfl rfl ?_
  have f175 := A168.keep K173
  have f176 := V158.ext E168
  have f177 := f176.keep K173 (ninS ne_b158_b168 nin0)
  refine w_callV (argsL := []) (rest := []) (a := b168) X173 hx hZ hown rfl f175 (rm13 l Z a0 hw b168 T173.heap n0 zn173 b158 ((own_hd (0 : Int32) vx) ++ (own_hd (1 : Int32) vy)) (own_hd (1 : Int32) vy) 0 (own_hd (0 : Int32) vx).length vx f175 g_b168 F_input_173 F_position_173 f177 ne_b158_b168  rfl (Nat.zero_add _).symm (own_pos vx vy).2) (hw _ (List.mem_of_getElem? (i := 73) rfl)) (hw _ (List.mem_of_getElem? (i := 74) rfl)) (hw _ (List.mem_of_getElem? (i := 76) rfl)) (hw _ (List.mem_of_getElem? (i := 75) rfl)) (hw _ (List.mem_of_getElem? (i := 66) rfl)) (hw _ (List.mem_of_getElem? (i := 77) rfl)) (by decide) (by decide) (W := 0) (by decide) (by decide) (by decide) (by rw [hml]; rfl) (lenOf pd_8 rfl) (Nat.le_refl _) rfl (hb hby at_143) (pc' := 146) rfl (fun T174 L174 v174 X174 hQ174 => ?_)
  obtain ⟨rfl, N174q, K174, Fp174, Fi174⟩ := hQ174
  have zn174 : n0 ≤ T174.heap.size := Nat.le_trans zn173 K174.1
  have N174 := Fr.app N173 N174q
  have X174 : Stand p l e room_1 s m _ below meth c T174 _ 8 213 := X174
  show Go p e below s room_1.cells room_1.slots (QL (some (.int 1)) n0) T174 (mkF m 146 #[.val (.int x0), .val (.long x1), .second, .val (.int x2), .val (.long x3), .second, .val (.int x4), .val (.long vx), .second, .val (.long vy), .second, .val (.ref b139), .val (.ref b141), .val (.ref b151), .val (.int ex), .val (.int (((own_hd (0 : Int32) vx) ++ (own_hd (1 : Int32) vy)).getD 0 0)), .val (.ref b158), .val (.ref b168), .unset, .unset, .unset, .unset] [(.long vx)])
  refine w_lstore (Ls' := #[.val (.int x0), .val (.long x1), .second, .val (.int x2), .val (.long x3), .second, .val (.int x4), .val (.long vx), .second, .val (.long vy), .second, .val (.ref b139), .val (.ref b141), .val (.ref b151), .val (.int ex), .val (.int (((own_hd (0 : Int32) vx) ++ (own_hd (1 : Int32) vy)).getD 0 0)), .val (.ref b158), .val (.ref b168), .val (.long vx), .second, .unset, .unset]) X174 hx (hb hby at_146) (pc' := 148) rfl rfl ?_
  refine w_aload X174 hx (hb hby at_148) (pc' := 150) rfl rfl rfl ?_
  have f179 := f175.keep K174
  have f180 := f177.keep K174 (ninS ne_b158_b168 nin0)
  refine w_callV (argsL := []) (rest := []) (a := b168) X174 hx hZ hown rfl f179 (rm16 l Z a0 hw b168 T174.heap n0 zn174 b158 ((own_hd (0 : Int32) vx) ++ (own_hd (1 : Int32) vy)) [] (own_hd (0 : Int32) vx).length ((own_hd (0 : Int32) vx).length + (own_hd (1 : Int32) vy).length) vy f179 g_b168 Fi174 Fp174 f180 ne_b158_b168  (by rw [List.drop_left, List.append_nil]) rfl (own_pos vx vy).2) (hw _ (List.mem_of_getElem? (i := 88) rfl)) (hw _ (List.mem_of_getElem? (i := 89) rfl)) (hw _ (List.mem_of_getElem? (i := 91) rfl)) (hw _ (List.mem_of_getElem? (i := 90) rfl)) (hw _ (List.mem_of_getElem? (i := 66) rfl)) (hw _ (List.mem_of_getElem? (i := 92) rfl)) (by decide) (by decide) (W := 0) (by decide) (by decide) (by decide) (by rw [hml]; rfl) (lenOf pd_8 rfl) (Nat.le_refl _) rfl (hb hby at_150) (pc' := 153) rfl (fun T178 L178 v178 X178 hQ178 => ?_)
  obtain ⟨rfl, N178q, K178, Fp178, Fi178⟩ := hQ178
  have zn178 : n0 ≤ T178.heap.size := Nat.le_trans zn174 K178.1
  have N178 := Fr.app N174 N178q
  have X178 : Stand p l e room_1 s m _ below meth c T178 _ 8 213 := X178
  show Go p e below s room_1.cells room_1.slots (QL (some (.int 1)) n0) T178 (mkF m 153 #[.val (.int x0), .val (.long x1), .second, .val (.int x2), .val (.long x3), .second, .val (.int x4), .val (.long vx), .second, .val (.long vy), .second, .val (.ref b139), .val (.ref b141), .val (.ref b151), .val (.int ex), .val (.int (((own_hd (0 : Int32) vx) ++ (own_hd (1 : Int32) vy)).getD 0 0)), .val (.ref b158), .val (.ref b168), .val (.long vx), .second, .unset, .unset] [(.long vy)])
  refine w_lstore (Ls' := #[.val (.int x0), .val (.long x1), .second, .val (.int x2), .val (.long x3), .second, .val (.int x4), .val (.long vx), .second, .val (.long vy), .second, .val (.ref b139), .val (.ref b141), .val (.ref b151), .val (.int ex), .val (.int (((own_hd (0 : Int32) vx) ++ (own_hd (1 : Int32) vy)).getD 0 0)), .val (.ref b158), .val (.ref b168), .val (.long vx), .second, .val (.long vy), .second]) X178 hx (hb hby at_153) (pc' := 155) rfl rfl ?_
  refine w_lload X178 hx (hb hby at_155) (pc' := 157) rfl rfl ?_
  refine w_lload X178 hx (hb hby at_157) (pc' := 159) rfl rfl ?_
  refine w_lcmp X178 hx (hb hby at_159) (pc' := 160) rfl ?_
  have hf160 : vx = vx := rfl
  refine w_ifL_ne X178 hx (hb hby at_160) (pf := 163) (pt := 185) rfl (by decide) (by decide) (fun hc => absurd hf160 hc) (fun hc160 => ?_)
  refine w_lload X178 hx (hb hby at_163) (pc' := 165) rfl rfl ?_
  refine w_lload X178 hx (hb hby at_165) (pc' := 167) rfl rfl ?_
  refine w_lcmp X178 hx (hb hby at_167) (pc' := 168) rfl ?_
  have hf168 : vy = vy := rfl
  refine w_ifL_ne X178 hx (hb hby at_168) (pf := 171) (pt := 185) rfl (by decide) (by decide) (fun hc => absurd hf168 hc) (fun hc168 => ?_)
  refine w_aload X178 hx (hb hby at_171) (pc' := 173) rfl rfl rfl ?_
  have f182 := f179.keep K178
  refine w_callV (argsL := []) (rest := []) (a := b168) X178 hx hZ hown rfl f182 (rm17 l Z a0 hw b168 T178.heap n0 zn178 ((own_hd (0 : Int32) vx).length + (own_hd (1 : Int32) vy).length).toInt32 Fp178) (hw _ (List.mem_of_getElem? (i := 93) rfl)) (hw _ (List.mem_of_getElem? (i := 94) rfl)) (hw _ (List.mem_of_getElem? (i := 96) rfl)) (hw _ (List.mem_of_getElem? (i := 95) rfl)) (hw _ (List.mem_of_getElem? (i := 66) rfl)) (hw _ (List.mem_of_getElem? (i := 97) rfl)) (by decide) (by decide) (W := 0) (by decide) (by decide) (by decide) (by rw [hml]; rfl) (lenOf pd_9 rfl) (Nat.le_refl _) rfl (hb hby at_173) (pc' := 176) rfl (fun T181 L181 v181 X181 hQ181 => ?_)
  obtain ⟨rfl, N181q, e181⟩ := hQ181
  have N181 := Fr.app N178 N181q
  have X181 : Stand p l e room_1 s m _ below meth c T181 _ 8 213 := X181
  show Go p e below s room_1.cells room_1.slots (QL (some (.int 1)) n0) T181 (mkF m 176 #[.val (.int x0), .val (.long x1), .second, .val (.int x2), .val (.long x3), .second, .val (.int x4), .val (.long vx), .second, .val (.long vy), .second, .val (.ref b139), .val (.ref b141), .val (.ref b151), .val (.int ex), .val (.int (((own_hd (0 : Int32) vx) ++ (own_hd (1 : Int32) vy)).getD 0 0)), .val (.ref b158), .val (.ref b168), .val (.long vx), .second, .val (.long vy), .second] [(.int ((own_hd (0 : Int32) vx).length + (own_hd (1 : Int32) vy).length).toInt32)])
  refine w_iload X181 hx (hb hby at_176) (pc' := 178) rfl rfl ?_
  have hf178 : ((own_hd (0 : Int32) vx).length + (own_hd (1 : Int32) vy).length).toInt32 = ex := (own_exp2 hex)
  refine w_icmp_ne X181 hx (hb hby at_178) (pf := 181) (pt := 185) rfl (by decide) (by decide) (fun hc => absurd hf178 hc) (fun hc178 => ?_)
  refine w_iconst (v := 1) X181 hx (hb hby at_181) (pc' := 182) rfl rfl ?_
  refine w_goto X181 hx (hb hby at_182) (pc' := 186) (by decide) (by decide) ?_
  exact w_retZ X181 hx hret hlk (hb hby at_186) (by decide) (by decide) ⟨rfl, N181⟩
set_option maxRecDepth 65536 in
set_option maxHeartbeats 40000000 in
theorem comes_1 {Post : Tables → Env → Array Value → State → Outcome → State → Prop} (hpost : ∀ tb e args s v u, (limb_1_1.after args s (.returned v) u = true ∧ limb_1_2.after args s (.returned v) u = true ∧ True) → FrameEnd s (.returned v) u (Jvm.fieldLocs frame_1_writes args s ++ Jvm.arrayLocs frame_1_arrays args s ++ Jvm.staticLocs frame_1_statics s) 24 256 → Post tb e args s (.returned v) u) :
    ArmFor flags0 classFile x code maxLocals ret World_1 tables_1 room_1 Calls_1 rest_1 Pre_1 Post := by
  intro l hfl _ _ p e ha hc hk s m args below hf hA hF happ hP
  obtain ⟨hcalls, hrest, hpre⟩ := hP
  obtain ⟨-, -, -, hnamed, -, -, -, hat⟩ := (Spec.applies_iff hf).mp happ
  obtain ⟨hg, hn⟩ := and_e (Cond.before_iff.mp (show (Jvm.Cond.and given_1 narrow_1).before args s = true from hpre))
  obtain ⟨g1, g2⟩ := and_e hg
  obtain ⟨g3, g4⟩ := and_e g2
  obtain ⟨g5, g6⟩ := and_e g4
  obtain ⟨g7, g8⟩ := and_e g6
  obtain ⟨g9, g10⟩ := and_e g8
  obtain ⟨w0, w1, w2, w3, w4, rfl⟩ : ∃ w0 w1 w2 w3 w4 : Value, args = #[w0, w1, w2, w3, w4] := by
    have hs : args.size = 5 := by simpa [Cond.value, given_1] using g1
    obtain ⟨L⟩ := args
    match L, hs with
    | [w0, w1, w2, w3, w4], _ => exact ⟨w0, w1, w2, w3, w4, rfl⟩
  have hw := fun d (hd : d ∈ tables_1) => atoms_spec (ws := Jvm.Cond.code x code maxLocals ret :: tables_1) hat d (List.mem_cons_of_mem _ hd)
  obtain ⟨i0, ei0⟩ := is_v g3
  obtain rfl : w0 = (.int i0) := Option.some.inj ei0
  obtain ⟨i1, ei1⟩ := isL_v g5
  obtain rfl : w1 = (.long i1) := Option.some.inj ei1
  obtain ⟨i2, ei2⟩ := is_v g7
  obtain rfl : w2 = (.int i2) := Option.some.inj ei2
  obtain ⟨i3, ei3⟩ := isL_v g9
  obtain rfl : w3 = (.long i3) := Option.some.inj ei3
  obtain ⟨i4, ei4⟩ := is_v g10
  obtain rfl : w4 = (.int i4) := Option.some.inj ei4
  have C := rm0 l s _ hw i0 i1 i2 i3 i4 s.heap s.heap.size (Nat.le_refl _)
  obtain ⟨n, o, h1, h2, h3, v, L, rfl, ⟨rfl, N⟩, hq⟩ := C tables_1 p e ha hc hk s m _ below hf ((Spec.applies_iff_loose hf).mp happ).1 ⟨rfl, State.Warmed39.refl s, rfl⟩ trivial
  refine ⟨n, _, h1, h2, h3, hpost _ _ _ _ _ _ ⟨Cond.after_iff.mpr rfl, Cond.after_iff.mpr (eq_i res_at (Term.int_eval (1)) rfl), trivial⟩ ⟨hq.1, hq.2.1, (hq.2.2.sift fun y hy => Or.inr (N y hy)).mono (by decide) (by decide)⟩⟩
theorem main_1_1 : Claimed_1_1 := comes_1 fun _ _ _ _ _ _ h hF => ⟨h.1, hF⟩
theorem main_1_2 : Claimed_1_2 := comes_1 fun _ _ _ _ _ _ h hF => ⟨h.2.1, hF⟩
end Jvm.Pilot.@@N@@
namespace Jvm.Pilot.@@N@@
open Jvm Jvm.ClassFile Sem Op Lib Jvm.Free Jvm.Stand Jvm.Pilot.@@N@@.Jvm.D
/-! MADE BY PROGRAM (witnessworld.py) out of the Statement's table words and the real class files: 13 classes; the members and pool entries that the words name. The judged class is class 1, her method 2. -/
namespace start1
open Jvm.ClassFile
def u (s : String) : CpInfo := .utf8 (stringToUtf16 s)
/-- a pool by its gaps: so many unusable entries, then the entry; so many at the end -/
def gap : Nat → List CpInfo → List CpInfo
  | 0, r => r
  | n + 1, r => .unusable :: gap n r
def poolList (es : List (Nat × CpInfo)) (last : Nat) : List CpInfo := es.foldr (fun e r => gap e.1 (e.2 :: r)) (gap last [])
def pool (es : List (Nat × CpInfo)) (last : Nat) : Array CpInfo := ⟨poolList es last⟩
def fileOf (pool : Array CpInfo) (this : Nat) (attrs : Array Attribute := #[]) (ms : Array MethodInfo := #[]) (fl : Nat := 33) (sup : Nat := 0) (ifs : Array Nat := #[]) (fds : Array FieldInfo := #[]) : ClassFile where
  minorVersion := 0
  majorVersion := 65
  constantPool := pool
  accessFlags := fl
  thisClass := this
  superClass := sup
  interfaces := ifs
  fields := fds
  methods := ms
  attributes := attrs
def plain (name : String) (sup : Option ClassId) : Class where
  name := name
  kind := .ordinary
  loader := none
  accessFlags := 33
  super := sup
  interfaces := #[]
  cf := none
  fields := #[]
  methods := #[]
  instanceTypes := #[]
  staticTypes := #[]
  resolved := #[]
  callSites := []
  init := .initialized
  statics := none
  mirror := none

def pool0 : Array CpInfo := pool [(5, u "<init>"), (0, u "()V"), (1, .class_ 10), (1, u "java/lang/Object"), (85, u "clone"), (0, u "()Ljava/lang/Object;")] 26

def k0c0 : Code := { maxStack := 0, maxLocals := 1, code := object_method_1_code, exceptionTable := #[], attributes := #[] }
def k0m0 : Method := { name := "<init>", desc := "()V", sig := { parameters := [], returnType := none }, accessFlags := 1, code := some k0c0 }
def k0m1 : Method := { name := "clone", desc := "()Ljava/lang/Object;", sig := { parameters := [], returnType := some (.object "java/lang/Object") }, accessFlags := 260, code := none }
/-- java/lang/Object -/
def k0 : Class := { plain "java/lang/Object" none with
  accessFlags := 33
  interfaces := #[]
  cf := some (fileOf pool0 8 #[] #[{ accessFlags := 1, nameIndex := 5, descriptorIndex := 6, attributes := #[] }, { accessFlags := 260, nameIndex := 96, descriptorIndex := 97, attributes := #[] }] 33 0 #[] #[])
  fields := #[]
  methods := #[k0m0, k0m1]
  instanceTypes := #[]
  staticTypes := #[]
  resolved := Array.replicate 124 none
  statics := none }

def pool1 : Array CpInfo := pool [(2, .class_ 4), (1, u "java/lang/Object"), (0, u "<init>"), (0, u "()V"), (0, .long 24), (1, .long 255), (1, .long 65535), (1, .long 4294967295), (1, .class_ 16), (0, u "com/example/inwrap/inwrap/CborWriter"), (0, .methodref 15 18), (0, .nameAndType 5 19), (0, u "(I)V"), (0, .methodref 15 21), (0, .nameAndType 22 23), (0, u "toByteArray"), (0, u "()[B"), (0, .methodref 15 25), (0, .nameAndType 26 27), (0, u "writeUnsigned"), (0, u "(J)V"), (0, .methodref 15 29), (0, .nameAndType 30 27), (0, u "writeNegative"), (0, .methodref 32 33), (0, .class_ 34), (0, .nameAndType 35 36), (0, u "com/example/inwrap/inwrap/CborWriterToByteArrayPinLaw"), (0, u "headLen"), (0, u "(J)I"), (0, .class_ 38), (0, u "com/example/inwrap/inwrap/CborReader"), (0, .methodref 37 40), (0, .nameAndType 5 41), (0, u "([B)V"), (0, .methodref 37 43), (0, .nameAndType 44 45), (0, u "readUnsigned"), (0, u "()J"), (0, .methodref 37 47), (0, .nameAndType 48 45), (0, u "readNegative"), (0, .methodref 37 50), (0, .nameAndType 51 52), (0, u "position"), (0, u "()I"), (3, u "law"), (0, u "(IJIJI)Z")] 4

def k1m0 : Method := { name := "<init>", desc := "()V", sig := { parameters := [], returnType := none }, accessFlags := 1, code := none }
def k1c1 : Code := { maxStack := 4, maxLocals := 2, code := method_2_code, exceptionTable := #[], attributes := #[] }
def k1m1 : Method := { name := "headLen", desc := "(J)I", sig := { parameters := [.long], returnType := some .int }, accessFlags := 10, code := some k1c1 }
def k1c2 : Code := { maxStack := 4, maxLocals := 22, code := code, exceptionTable := #[], attributes := #[] }
def k1m2 : Method := { name := "law", desc := "(IJIJI)Z", sig := { parameters := [.int, .long, .int, .long, .int], returnType := some .boolean }, accessFlags := 9, code := some k1c2 }
/-- com/example/inwrap/inwrap/CborWriterToByteArrayPinLaw -/
def k1 : Class := { plain "com/example/inwrap/inwrap/CborWriterToByteArrayPinLaw" (some 0) with
  accessFlags := 49
  interfaces := #[]
  cf := some (fileOf pool1 32 #[] #[{ accessFlags := 1, nameIndex := 5, descriptorIndex := 6, attributes := #[] }, { accessFlags := 10, nameIndex := 35, descriptorIndex := 36, attributes := #[] }, { accessFlags := 9, nameIndex := 56, descriptorIndex := 57, attributes := #[] }] 49 2 #[] #[])
  fields := #[]
  methods := #[k1m0, k1m1, k1m2]
  instanceTypes := #[]
  staticTypes := #[]
  resolved := Array.replicate 62 none
  statics := none }

def pool2 : Array CpInfo := pool [(1, .methodref 2 3), (0, .class_ 4), (0, .nameAndType 5 6), (0, u "java/lang/Object"), (0, u "<init>"), (0, u "()V"), (0, .methodref 8 9), (0, .class_ 10), (0, .nameAndType 11 12), (0, u "java/lang/Math"), (0, u "max"), (0, u "(II)I"), (0, .fieldref 14 15), (0, .class_ 16), (0, .nameAndType 17 18), (0, u "com/example/inwrap/inwrap/CborWriter"), (0, u "buffer"), (0, u "[B"), (2, .methodref 14 22), (0, .nameAndType 23 24), (0, u "writeHead"), (0, u "(IJ)V"), (16, .methodref 14 42), (0, .nameAndType 43 44), (0, u "ensure"), (0, u "(I)V"), (0, .fieldref 14 46), (0, .nameAndType 47 48), (0, u "size"), (0, u "I"), (6, .methodref 56 57), (0, .class_ 58), (0, .nameAndType 59 60), (0, u "java/util/Arrays"), (0, u "copyOf"), (0, u "([BI)[B"), (0, .long 24), (1, .long 255), (1, .long 65535), (1, .long 4294967295), (3, u "writeUnsigned"), (0, u "(J)V"), (0, u "writeNegative"), (7, u "toByteArray"), (0, u "()[B")] 3

def k2c0 : Code := { maxStack := 3, maxLocals := 2, code := prog_3_method_1_code, exceptionTable := #[], attributes := #[] }
def k2m0 : Method := { name := "<init>", desc := "(I)V", sig := { parameters := [.int], returnType := none }, accessFlags := 0, code := some k2c0 }
def k2c1 : Code := { maxStack := 4, maxLocals := 3, code := prog_3_method_2_code, exceptionTable := #[], attributes := #[] }
def k2m1 : Method := { name := "writeUnsigned", desc := "(J)V", sig := { parameters := [.long], returnType := none }, accessFlags := 0, code := some k2c1 }
def k2c2 : Code := { maxStack := 4, maxLocals := 3, code := prog_3_method_3_code, exceptionTable := #[], attributes := #[] }
def k2m2 : Method := { name := "writeNegative", desc := "(J)V", sig := { parameters := [.long], returnType := none }, accessFlags := 0, code := some k2c2 }
def k2c3 : Code := { maxStack := 2, maxLocals := 1, code := prog_3_method_10_code, exceptionTable := #[], attributes := #[] }
def k2m3 : Method := { name := "toByteArray", desc := "()[B", sig := { parameters := [], returnType := some (.array .byte) }, accessFlags := 0, code := some k2c3 }
def k2c4 : Code := { maxStack := 6, maxLocals := 8, code := prog_3_method_11_code, exceptionTable := #[], attributes := #[] }
def k2m4 : Method := { name := "writeHead", desc := "(IJ)V", sig := { parameters := [.int, .long], returnType := none }, accessFlags := 2, code := some k2c4 }
def k2c5 : Code := { maxStack := 5, maxLocals := 2, code := prog_3_method_12_code, exceptionTable := #[], attributes := #[] }
def k2m5 : Method := { name := "ensure", desc := "(I)V", sig := { parameters := [.int], returnType := none }, accessFlags := 2, code := some k2c5 }
/-- com/example/inwrap/inwrap/CborWriter -/
def k2 : Class := { plain "com/example/inwrap/inwrap/CborWriter" (some 0) with
  accessFlags := 48
  interfaces := #[]
  cf := some (fileOf pool2 14 #[] #[{ accessFlags := 0, nameIndex := 5, descriptorIndex := 44, attributes := #[] }, { accessFlags := 0, nameIndex := 71, descriptorIndex := 72, attributes := #[] }, { accessFlags := 0, nameIndex := 73, descriptorIndex := 72, attributes := #[] }, { accessFlags := 0, nameIndex := 81, descriptorIndex := 82, attributes := #[] }, { accessFlags := 2, nameIndex := 23, descriptorIndex := 24, attributes := #[] }, { accessFlags := 2, nameIndex := 43, descriptorIndex := 44, attributes := #[] }] 48 2 #[] #[{ accessFlags := 2, nameIndex := 17, descriptorIndex := 18, attributes := #[] }, { accessFlags := 2, nameIndex := 47, descriptorIndex := 48, attributes := #[] }])
  fields := #[{ name := "buffer", type := (.array .byte), accessFlags := 2, slot := 0, constantValue := 0 }, { name := "size", type := .int, accessFlags := 2, slot := 1, constantValue := 0 }]
  methods := #[k2m0, k2m1, k2m2, k2m3, k2m4, k2m5]
  instanceTypes := #[(.array .byte), .int]
  staticTypes := #[]
  resolved := Array.replicate 86 none
  statics := none }

def pool3 : Array CpInfo := pool [(1, .class_ 2), (0, u "java/lang/Math"), (1, .class_ 6), (1, u "java/lang/Object"), (0, u "<init>"), (0, u "()V"), (89, .class_ 100), (1, u "java/lang/Math$RandomNumberGeneratorHolder"), (71, u "negativeZeroFloatBits"), (0, u "J"), (2, u "negativeZeroDoubleBits"), (21, u "max"), (2, u "min"), (43, u "$assertionsDisabled"), (0, u "Z"), (88, u "(II)I"), (2, u "twoToTheDoubleScaleDown"), (0, u "D"), (4, u "twoToTheDoubleScaleUp"), (9, u "E"), (3, u "PI"), (2, u "TAU"), (2, u "DEGREES_TO_RADIANS"), (0, u "RADIANS_TO_DEGREES")] 94

def k3m0 : Method := { name := "<init>", desc := "()V", sig := { parameters := [], returnType := none }, accessFlags := 2, code := none }
def k3c1 : Code := { maxStack := 2, maxLocals := 2, code := jdk_29_method_65_code, exceptionTable := #[], attributes := #[] }
def k3m1 : Method := { name := "max", desc := "(II)I", sig := { parameters := [.int, .int], returnType := some .int }, accessFlags := 9, code := some k3c1 }
def k3c2 : Code := { maxStack := 2, maxLocals := 2, code := jdk_29_method_69_code, exceptionTable := #[], attributes := #[] }
def k3m2 : Method := { name := "min", desc := "(II)I", sig := { parameters := [.int, .int], returnType := some .int }, accessFlags := 9, code := some k3c2 }
/-- java/lang/Math -/
def k3 : Class := { plain "java/lang/Math" (some 0) with
  accessFlags := 49
  interfaces := #[]
  cf := some (fileOf pool3 1 #[.nestMembers #[98]] #[{ accessFlags := 2, nameIndex := 7, descriptorIndex := 8, attributes := #[] }, { accessFlags := 9, nameIndex := 198, descriptorIndex := 335, attributes := #[] }, { accessFlags := 9, nameIndex := 201, descriptorIndex := 335, attributes := #[] }] 49 4 #[] #[{ accessFlags := 25, nameIndex := 354, descriptorIndex := 339, attributes := #[] }, { accessFlags := 25, nameIndex := 358, descriptorIndex := 339, attributes := #[] }, { accessFlags := 25, nameIndex := 361, descriptorIndex := 339, attributes := #[] }, { accessFlags := 26, nameIndex := 364, descriptorIndex := 339, attributes := #[] }, { accessFlags := 26, nameIndex := 365, descriptorIndex := 339, attributes := #[] }, { accessFlags := 26, nameIndex := 172, descriptorIndex := 173, attributes := #[] }, { accessFlags := 26, nameIndex := 176, descriptorIndex := 173, attributes := #[] }, { accessFlags := 8, nameIndex := 344, descriptorIndex := 339, attributes := #[] }, { accessFlags := 8, nameIndex := 338, descriptorIndex := 339, attributes := #[] }, { accessFlags := 4120, nameIndex := 245, descriptorIndex := 246, attributes := #[] }])
  fields := #[{ name := "E", type := .double, accessFlags := 25, slot := 0, constantValue := 0 }, { name := "PI", type := .double, accessFlags := 25, slot := 1, constantValue := 0 }, { name := "TAU", type := .double, accessFlags := 25, slot := 2, constantValue := 0 }, { name := "DEGREES_TO_RADIANS", type := .double, accessFlags := 26, slot := 3, constantValue := 0 }, { name := "RADIANS_TO_DEGREES", type := .double, accessFlags := 26, slot := 4, constantValue := 0 }, { name := "negativeZeroFloatBits", type := .long, accessFlags := 26, slot := 5, constantValue := 0 }, { name := "negativeZeroDoubleBits", type := .long, accessFlags := 26, slot := 6, constantValue := 0 }, { name := "twoToTheDoubleScaleUp", type := .double, accessFlags := 8, slot := 7, constantValue := 0 }, { name := "twoToTheDoubleScaleDown", type := .double, accessFlags := 8, slot := 8, constantValue := 0 }, { name := "$assertionsDisabled", type := .boolean, accessFlags := 4120, slot := 9, constantValue := 0 }]
  methods := #[k3m0, k3m1, k3m2]
  instanceTypes := #[]
  staticTypes := #[.double, .double, .double, .double, .double, .long, .long, .double, .double, .boolean]
  resolved := Array.replicate 460 none
  statics := none }

def pool4 : Array CpInfo := pool [(2, .class_ 4), (1, u "java/lang/Object"), (0, u "<init>"), (0, u "()V"), (7, .class_ 16), (1, u "java/util/Arrays"), (57, .class_ 76), (1, u "java/util/Arrays$NaturalOrder"), (32, u "()Ljava/lang/Object;"), (3, .class_ 115), (1, u "java/util/Arrays$LegacyMergeSort"), (1, u "Z"), (10, .nameAndType 129 109), (0, u "clone"), (20, .methodref 151 152), (0, .class_ 153), (0, .nameAndType 154 155), (0, u "java/lang/System"), (0, u "arraycopy"), (0, u "(Ljava/lang/Object;ILjava/lang/Object;II)V"), (146, u "copyOf"), (1, .methodref 305 306), (0, .class_ 307), (0, .nameAndType 308 309), (0, u "java/lang/Math"), (0, u "min"), (0, u "(II)I"), (0, .methodref 311 128), (0, .class_ 312), (0, u "[B"), (62, .class_ 376), (0, u "java/util/Arrays$ArrayList"), (68, u "$assertionsDisabled"), (269, u "MIN_ARRAY_SORT_GRAN"), (0, u "I"), (2, u "INSERTIONSORT_THRESHOLD"), (149, u "([BI)[B"), (105, .class_ 976), (0, u "java/util/Arrays$ArrayItr")] 52

def k4m0 : Method := { name := "<init>", desc := "()V", sig := { parameters := [], returnType := none }, accessFlags := 2, code := none }
def k4c1 : Code := { maxStack := 6, maxLocals := 3, code := jdk_65_method_121_code, exceptionTable := #[], attributes := #[] }
def k4m1 : Method := { name := "copyOf", desc := "([BI)[B", sig := { parameters := [(.array .byte), .int], returnType := some (.array .byte) }, accessFlags := 9, code := some k4c1 }
/-- java/util/Arrays -/
def k4 : Class := { plain "java/util/Arrays" (some 0) with
  accessFlags := 49
  interfaces := #[]
  cf := some (fileOf pool4 14 #[.nestMembers #[975, 375, 113, 74]] #[{ accessFlags := 2, nameIndex := 5, descriptorIndex := 6, attributes := #[] }, { accessFlags := 9, nameIndex := 302, descriptorIndex := 869, attributes := #[] }] 49 2 #[] #[{ accessFlags := 26, nameIndex := 715, descriptorIndex := 716, attributes := #[] }, { accessFlags := 26, nameIndex := 719, descriptorIndex := 716, attributes := #[] }, { accessFlags := 4120, nameIndex := 445, descriptorIndex := 117, attributes := #[] }])
  fields := #[{ name := "MIN_ARRAY_SORT_GRAN", type := .int, accessFlags := 26, slot := 0, constantValue := 0 }, { name := "INSERTIONSORT_THRESHOLD", type := .int, accessFlags := 26, slot := 1, constantValue := 0 }, { name := "$assertionsDisabled", type := .boolean, accessFlags := 4120, slot := 2, constantValue := 0 }]
  methods := #[k4m0, k4m1]
  instanceTypes := #[]
  staticTypes := #[.int, .int, .boolean]
  resolved := Array.replicate 1029 none
  statics := none }

def pool5 : Array CpInfo := pool [(2, .class_ 4), (1, u "java/lang/Object"), (0, u "<init>"), (0, u "()V"), (1, .class_ 10), (1, u "java/lang/System"), (0, u "allowSecurityManager"), (0, u "I"), (16, u "cons"), (0, u "Ljava/io/Console;"), (77, .class_ 110), (1, u "java/lang/System$CallersHolder"), (43, u "initialErrStream"), (0, u "Ljava/io/PrintStream;"), (19, u "security"), (0, u "Ljava/lang/SecurityManager;"), (31, .class_ 209), (0, u "java/lang/System$1"), (7, u "props"), (0, u "Ljava/util/Properties;"), (2, u "lineSeparator"), (0, u "Ljava/lang/String;"), (96, .class_ 321), (1, u "java/lang/System$LoggerFinder"), (5, .class_ 328), (0, u "java/lang/System$Logger"), (67, u "err"), (2, u "out"), (91, u "notSupportedJnuEncoding"), (15, u "in"), (17, u "initialIn"), (0, u "Ljava/io/InputStream;"), (35, u "bootLayer"), (0, u "Ljava/lang/ModuleLayer;"), (99, .class_ 664), (0, u "java/lang/System$2"), (9, u "NEVER"), (2, u "MAYBE"), (49, u "arraycopy"), (0, u "(Ljava/lang/Object;ILjava/lang/Object;II)V"), (72, .class_ 802), (0, u "java/lang/System$Logger$Level")] 31

def k5m0 : Method := { name := "<init>", desc := "()V", sig := { parameters := [], returnType := none }, accessFlags := 2, code := none }
def k5m1 : Method := { name := "arraycopy", desc := "(Ljava/lang/Object;ILjava/lang/Object;II)V", sig := { parameters := [(.object "java/lang/Object"), .int, (.object "java/lang/Object"), .int, .int], returnType := none }, accessFlags := 265, code := none }
/-- java/lang/System -/
def k5 : Class := { plain "java/lang/System" (some 0) with
  accessFlags := 49
  interfaces := #[]
  cf := some (fileOf pool5 8 #[.nestMembers #[319, 327, 801, 108, 663, 208]] #[{ accessFlags := 2, nameIndex := 5, descriptorIndex := 6, attributes := #[] }, { accessFlags := 265, nameIndex := 727, descriptorIndex := 728, attributes := #[] }] 49 2 #[] #[{ accessFlags := 25, nameIndex := 507, descriptorIndex := 526, attributes := #[] }, { accessFlags := 25, nameIndex := 399, descriptorIndex := 155, attributes := #[] }, { accessFlags := 25, nameIndex := 396, descriptorIndex := 155, attributes := #[] }, { accessFlags := 10, nameIndex := 525, descriptorIndex := 526, attributes := #[] }, { accessFlags := 26, nameIndex := 674, descriptorIndex := 12, attributes := #[] }, { accessFlags := 26, nameIndex := 677, descriptorIndex := 12, attributes := #[] }, { accessFlags := 10, nameIndex := 11, descriptorIndex := 12, attributes := #[] }, { accessFlags := 74, nameIndex := 175, descriptorIndex := 176, attributes := #[] }, { accessFlags := 10, nameIndex := 491, descriptorIndex := 222, attributes := #[] }, { accessFlags := 74, nameIndex := 29, descriptorIndex := 30, attributes := #[] }, { accessFlags := 74, nameIndex := 154, descriptorIndex := 155, attributes := #[] }, { accessFlags := 10, nameIndex := 217, descriptorIndex := 218, attributes := #[] }, { accessFlags := 10, nameIndex := 221, descriptorIndex := 222, attributes := #[] }, { accessFlags := 8, nameIndex := 562, descriptorIndex := 563, attributes := #[] }])
  fields := #[{ name := "in", type := (.object "java/io/InputStream"), accessFlags := 25, slot := 0, constantValue := 0 }, { name := "out", type := (.object "java/io/PrintStream"), accessFlags := 25, slot := 1, constantValue := 0 }, { name := "err", type := (.object "java/io/PrintStream"), accessFlags := 25, slot := 2, constantValue := 0 }, { name := "initialIn", type := (.object "java/io/InputStream"), accessFlags := 10, slot := 3, constantValue := 0 }, { name := "NEVER", type := .int, accessFlags := 26, slot := 4, constantValue := 0 }, { name := "MAYBE", type := .int, accessFlags := 26, slot := 5, constantValue := 0 }, { name := "allowSecurityManager", type := .int, accessFlags := 10, slot := 6, constantValue := 0 }, { name := "security", type := (.object "java/lang/SecurityManager"), accessFlags := 74, slot := 7, constantValue := 0 }, { name := "notSupportedJnuEncoding", type := (.object "java/lang/String"), accessFlags := 10, slot := 8, constantValue := 0 }, { name := "cons", type := (.object "java/io/Console"), accessFlags := 74, slot := 9, constantValue := 0 }, { name := "initialErrStream", type := (.object "java/io/PrintStream"), accessFlags := 74, slot := 10, constantValue := 0 }, { name := "props", type := (.object "java/util/Properties"), accessFlags := 10, slot := 11, constantValue := 0 }, { name := "lineSeparator", type := (.object "java/lang/String"), accessFlags := 10, slot := 12, constantValue := 0 }, { name := "bootLayer", type := (.object "java/lang/ModuleLayer"), accessFlags := 8, slot := 13, constantValue := 0 }]
  methods := #[k5m0, k5m1]
  instanceTypes := #[]
  staticTypes := #[(.object "java/io/InputStream"), (.object "java/io/PrintStream"), (.object "java/io/PrintStream"), (.object "java/io/InputStream"), .int, .int, .int, (.object "java/lang/SecurityManager"), (.object "java/lang/String"), (.object "java/io/Console"), (.object "java/io/PrintStream"), (.object "java/util/Properties"), (.object "java/lang/String"), (.object "java/lang/ModuleLayer")]
  resolved := Array.replicate 834 none
  statics := none }

def pool6 : Array CpInfo := pool [(1, .methodref 2 3), (0, .class_ 4), (0, .nameAndType 5 6), (0, u "java/lang/Object"), (0, u "<init>"), (0, u "()V"), (0, .fieldref 8 9), (0, .class_ 10), (0, .nameAndType 11 12), (0, u "com/example/inwrap/inwrap/CborReader"), (0, u "input"), (0, u "[B"), (9, u "([B)V"), (9, .fieldref 8 33), (0, .nameAndType 34 35), (0, u "position"), (0, u "I"), (0, .methodref 8 37), (0, .nameAndType 38 39), (0, u "need"), (0, u "(I)V"), (4, u "MAJOR_TYPE_NAMES"), (0, u "[Ljava/lang/String;"), (3, u "()I"), (0, .methodref 8 51), (0, .nameAndType 52 53), (0, u "readArgument"), (0, u "(I)J"), (80, u "()J"), (67, u "UNSIGNED"), (2, u "NEGATIVE"), (1, u "BYTES"), (1, u "TEXT"), (1, u "ARRAY"), (1, u "MAP"), (1, u "TAG"), (1, u "SIMPLE"), (1, u "INDEFINITE"), (1, u "MAX_SKIP_DEPTH"), (1, u "KEY_OR_BREAK"), (0, u "J"), (0, u "VALUE_DUE"), (0, u "BREAK"), (1, u "INDEFINITE_LENGTH"), (1, u "ONE_BYTE_SIMPLE"), (1, u "MIN_ONE_BYTE_SIMPLE"), (9, u "readUnsigned"), (0, u "readNegative")] 43

def k6c0 : Code := { maxStack := 2, maxLocals := 2, code := prog_2_method_1_code, exceptionTable := #[], attributes := #[] }
def k6m0 : Method := { name := "<init>", desc := "([B)V", sig := { parameters := [(.array .byte)], returnType := none }, accessFlags := 0, code := some k6c0 }
def k6c1 : Code := { maxStack := 1, maxLocals := 1, code := prog_2_method_3_code, exceptionTable := #[], attributes := #[] }
def k6m1 : Method := { name := "position", desc := "()I", sig := { parameters := [], returnType := some .int }, accessFlags := 0, code := some k6c1 }
def k6c2 : Code := { maxStack := 2, maxLocals := 1, code := prog_2_method_6_code, exceptionTable := #[], attributes := #[] }
def k6m2 : Method := { name := "readUnsigned", desc := "()J", sig := { parameters := [], returnType := some .long }, accessFlags := 0, code := some k6c2 }
def k6c3 : Code := { maxStack := 2, maxLocals := 1, code := prog_2_method_7_code, exceptionTable := #[], attributes := #[] }
def k6m3 : Method := { name := "readNegative", desc := "()J", sig := { parameters := [], returnType := some .long }, accessFlags := 0, code := some k6c3 }
def k6c4 : Code := { maxStack := 7, maxLocals := 9, code := prog_2_method_20_code, exceptionTable := #[], attributes := #[] }
def k6m4 : Method := { name := "readArgument", desc := "(I)J", sig := { parameters := [.int], returnType := some .long }, accessFlags := 2, code := some k6c4 }
def k6c5 : Code := { maxStack := 3, maxLocals := 2, code := prog_2_method_24_code, exceptionTable := #[], attributes := #[] }
def k6m5 : Method := { name := "need", desc := "(I)V", sig := { parameters := [.int], returnType := none }, accessFlags := 2, code := some k6c5 }
/-- com/example/inwrap/inwrap/CborReader -/
def k6 : Class := { plain "com/example/inwrap/inwrap/CborReader" (some 0) with
  accessFlags := 48
  interfaces := #[]
  cf := some (fileOf pool6 8 #[] #[{ accessFlags := 0, nameIndex := 5, descriptorIndex := 22, attributes := #[] }, { accessFlags := 0, nameIndex := 34, descriptorIndex := 49, attributes := #[] }, { accessFlags := 0, nameIndex := 242, descriptorIndex := 134, attributes := #[] }, { accessFlags := 0, nameIndex := 243, descriptorIndex := 134, attributes := #[] }, { accessFlags := 2, nameIndex := 52, descriptorIndex := 53, attributes := #[] }, { accessFlags := 2, nameIndex := 38, descriptorIndex := 39, attributes := #[] }] 48 2 #[] #[{ accessFlags := 24, nameIndex := 202, descriptorIndex := 35, attributes := #[] }, { accessFlags := 24, nameIndex := 205, descriptorIndex := 35, attributes := #[] }, { accessFlags := 24, nameIndex := 207, descriptorIndex := 35, attributes := #[] }, { accessFlags := 24, nameIndex := 209, descriptorIndex := 35, attributes := #[] }, { accessFlags := 24, nameIndex := 211, descriptorIndex := 35, attributes := #[] }, { accessFlags := 24, nameIndex := 213, descriptorIndex := 35, attributes := #[] }, { accessFlags := 24, nameIndex := 215, descriptorIndex := 35, attributes := #[] }, { accessFlags := 24, nameIndex := 217, descriptorIndex := 35, attributes := #[] }, { accessFlags := 24, nameIndex := 219, descriptorIndex := 35, attributes := #[] }, { accessFlags := 24, nameIndex := 221, descriptorIndex := 35, attributes := #[] }, { accessFlags := 26, nameIndex := 223, descriptorIndex := 224, attributes := #[] }, { accessFlags := 26, nameIndex := 225, descriptorIndex := 224, attributes := #[] }, { accessFlags := 26, nameIndex := 226, descriptorIndex := 35, attributes := #[] }, { accessFlags := 26, nameIndex := 228, descriptorIndex := 35, attributes := #[] }, { accessFlags := 26, nameIndex := 230, descriptorIndex := 35, attributes := #[] }, { accessFlags := 26, nameIndex := 232, descriptorIndex := 35, attributes := #[] }, { accessFlags := 26, nameIndex := 44, descriptorIndex := 45, attributes := #[] }, { accessFlags := 18, nameIndex := 11, descriptorIndex := 12, attributes := #[] }, { accessFlags := 2, nameIndex := 34, descriptorIndex := 35, attributes := #[] }])
  fields := #[{ name := "UNSIGNED", type := .int, accessFlags := 24, slot := 0, constantValue := 0 }, { name := "NEGATIVE", type := .int, accessFlags := 24, slot := 1, constantValue := 0 }, { name := "BYTES", type := .int, accessFlags := 24, slot := 2, constantValue := 0 }, { name := "TEXT", type := .int, accessFlags := 24, slot := 3, constantValue := 0 }, { name := "ARRAY", type := .int, accessFlags := 24, slot := 4, constantValue := 0 }, { name := "MAP", type := .int, accessFlags := 24, slot := 5, constantValue := 0 }, { name := "TAG", type := .int, accessFlags := 24, slot := 6, constantValue := 0 }, { name := "SIMPLE", type := .int, accessFlags := 24, slot := 7, constantValue := 0 }, { name := "INDEFINITE", type := .int, accessFlags := 24, slot := 8, constantValue := 0 }, { name := "MAX_SKIP_DEPTH", type := .int, accessFlags := 24, slot := 9, constantValue := 0 }, { name := "KEY_OR_BREAK", type := .long, accessFlags := 26, slot := 10, constantValue := 0 }, { name := "VALUE_DUE", type := .long, accessFlags := 26, slot := 11, constantValue := 0 }, { name := "BREAK", type := .int, accessFlags := 26, slot := 12, constantValue := 0 }, { name := "INDEFINITE_LENGTH", type := .int, accessFlags := 26, slot := 13, constantValue := 0 }, { name := "ONE_BYTE_SIMPLE", type := .int, accessFlags := 26, slot := 14, constantValue := 0 }, { name := "MIN_ONE_BYTE_SIMPLE", type := .int, accessFlags := 26, slot := 15, constantValue := 0 }, { name := "MAJOR_TYPE_NAMES", type := (.array (.object "java/lang/String")), accessFlags := 26, slot := 16, constantValue := 0 }, { name := "input", type := (.array .byte), accessFlags := 18, slot := 0, constantValue := 0 }, { name := "position", type := .int, accessFlags := 2, slot := 1, constantValue := 0 }]
  methods := #[k6m0, k6m1, k6m2, k6m3, k6m4, k6m5]
  instanceTypes := #[(.array .byte), .int]
  staticTypes := #[.int, .int, .int, .int, .int, .int, .int, .int, .int, .int, .long, .long, .int, .int, .int, .int, (.array (.object "java/lang/String"))]
  resolved := Array.replicate 287 none
  statics := none }

def pool7 : Array CpInfo := pool [(1, .class_ 2), (0, u "java/lang/Cloneable"), (0, .class_ 4), (0, u "java/lang/Object")] 2

/-- java/lang/Cloneable -/
def k7 : Class := { plain "java/lang/Cloneable" (some 0) with
  accessFlags := 1537
  interfaces := #[]
  cf := some (fileOf pool7 1 #[] #[] 1537 3 #[] #[])
  fields := #[]
  methods := #[]
  instanceTypes := #[]
  staticTypes := #[]
  resolved := Array.replicate 7 none
  statics := none }

def pool8 : Array CpInfo := pool [(1, u "java/io/Serializable"), (0, .class_ 1), (0, u "java/lang/Object"), (0, .class_ 3)] 3

/-- java/io/Serializable -/
def k8 : Class := { plain "java/io/Serializable" (some 0) with
  accessFlags := 1537
  interfaces := #[]
  cf := some (fileOf pool8 2 #[] #[] 1537 4 #[] #[])
  fields := #[]
  methods := #[]
  instanceTypes := #[]
  staticTypes := #[]
  resolved := Array.replicate 8 none
  statics := none }

/-- the primitive byte -/
def k9 : Class := { plain "byte" none with kind := .primitive 'B', accessFlags := 0x411 }
/-- [B -/
def k10 : Class := { plain "[B" (some 0) with kind := .array 9 .byte, interfaces := #[7, 8], accessFlags := 1041 }

/-- the primitive int -/
def k11 : Class := { plain "int" none with kind := .primitive 'I', accessFlags := 0x411 }
/-- [I -/
def k12 : Class := { plain "[I" (some 0) with kind := .array 11 .int, interfaces := #[7, 8], accessFlags := 1041 }

def heap : Heap := #[]
def classes : Array Class := #[k0, k1, k2, k3, k4, k5, k6, k7, k8, k9, k10, k11, k12]
def interned : List (Array UInt16 × Addr) := []
def slotsUsed : Nat := 0
def theMethod : MethodId := ⟨1, 2⟩
def args0 : Array Value := #[.int 3, .long 4, .int 5, .long 6, .int 7]
def aboutOver (below : List Frame) : State where
  vm := { classes := classes, interned := interned.toArray }
  heap := heap
  slotsUsed := slotsUsed
  threads := #[{ frames := .invoking theMethod args0 :: below }]
def below0 : List Frame := [.native { method := ⟨0, 0⟩, args := #[] }]
def about1 : State := aboutOver below0
def p0 : Program := .bare "" "" ""
def e0 : Env := launch0.env 0 0 0
theorem w_frames : about1.frames = Frame.invoking theMethod args0 :: below0 := rfl
set_option maxRecDepth 65536 in
theorem w_args : argsFit about1.vm theMethod args0 = true := by decide +kernel
set_option maxRecDepth 65536 in
theorem w_heap : heapFits about1 = true := by decide +kernel
set_option maxRecDepth 65536 in
theorem w_runnable : about1.curStatus? = some .runnable := by decide +kernel
set_option maxRecDepth 65536 in
theorem w_alone : about1.alone = true := by decide +kernel
set_option maxRecDepth 65536 in
theorem w_named : about1.methodNamed? x = some theMethod := by decide +kernel
set_option maxRecDepth 65536 in
theorem w_hears : about1.hears theMethod below0 = true := by decide +kernel
set_option maxRecDepth 65536 in
theorem w_ripe : about1.ripe theMethod args0 below0 = true := by decide +kernel
theorem w_running : about1.status = .running := rfl
set_option maxRecDepth 65536 in
theorem w_room : about1.hasRoom e0.platform room_1 = true :=
  launch0.hasRoom_least _ room_1 (by decide +kernel) (by decide +kernel) (by decide +kernel) (by decide +kernel) (by decide +kernel) (by decide +kernel)
theorem allAtoms_all (ts : List Jvm.Cond) (a : Array Jvm.Value) (st : Jvm.State) : (allAtoms ts).before a st = ts.all (fun c => c.before a st) := by
  induction ts with
  | nil => rfl
  | cons c t ih =>
    show (Jvm.Cond.and c (allAtoms t)).before a st = _
    rw [Jvm.Cond.before_and, ih, List.all_cons]
def words1 : List Jvm.Cond := Jvm.Cond.code x code maxLocals ret :: tables_1
/-- a 'code' word, met by the world's own term for the bytes: nothing is compared byte by byte -/
theorem code_word {y : MethodName} {bytes : ByteArray} {mx : Nat} {rt : Option FieldType} {a : Array Value} {s : State} {m : MethodId} {meth : Method} {c : Code} (h1 : s.methodNamed? y = some m) (h2 : s.vm.method? m = some meth) (h3 : meth.code = some c) (h4 : c.code = bytes)
    (h5 : (c.maxLocals == mx && c.exceptionTable.isEmpty && decide (c.maxStack ≤ mostOperands) && decide (meth.sig.returnType = rt) && !meth.locks && decide (parseMethodDescriptor y.desc = some meth.sig)) = true) : (Jvm.Cond.code y bytes mx rt).before a s = true := by
  simp only [Bool.and_eq_true, beq_iff_eq, Bool.not_eq_true', decide_eq_true_eq] at h5
  obtain ⟨⟨⟨⟨⟨g1, g2⟩, g3⟩, g4⟩, g5⟩, g6⟩ := h5
  simp [Cond.before, Cond.holds, Cond.value, h1, h2, h3, h4, g1, g2, g3, g4, g5, g6]
def isCode : Jvm.Cond → Bool
  | .code _ _ _ _ => true
  | _ => false
theorem all_split {L : List Jvm.Cond} {P : Jvm.Cond → Bool} (h1 : L.all (fun c => isCode c || P c) = true) (h2 : ∀ c ∈ L.filter isCode, P c = true) : L.all P = true := by
  refine List.all_eq_true.mpr fun c hc => ?_
  have h := List.all_eq_true.mp h1 c hc
  rcases Bool.eq_false_or_eq_true (isCode c) with hi | hi
  · exact h2 c (List.mem_filter.mpr ⟨hc, hi⟩)
  · simpa [hi] using h
set_option maxRecDepth 65536 in
theorem w_c0 : (Jvm.Cond.code x code maxLocals ret).before args0 about1 = true := code_word (m := ⟨1, 2⟩) (meth := k1m2) (c := k1c2) (by decide +kernel) rfl rfl rfl (by decide +kernel)
set_option maxRecDepth 65536 in
theorem w_c1 : (Jvm.Cond.code ({ cls := "com/example/inwrap/inwrap/CborWriter", name := "<init>", desc := "(I)V" } : Jvm.MethodName) prog_3_method_1_code (2 : Nat) (Option.none : Option Jvm.ClassFile.FieldType)).before args0 about1 = true := code_word (m := ⟨2, 0⟩) (meth := k2m0) (c := k2c0) (by decide +kernel) rfl rfl rfl (by decide +kernel)
set_option maxRecDepth 65536 in
theorem w_c2 : (Jvm.Cond.code ({ cls := "java/lang/Object", name := "<init>", desc := "()V" } : Jvm.MethodName) object_method_1_code (1 : Nat) (Option.none : Option Jvm.ClassFile.FieldType)).before args0 about1 = true := code_word (m := ⟨0, 0⟩) (meth := k0m0) (c := k0c0) (by decide +kernel) rfl rfl rfl (by decide +kernel)
set_option maxRecDepth 65536 in
theorem w_c3 : (Jvm.Cond.code ({ cls := "java/lang/Math", name := "max", desc := "(II)I" } : Jvm.MethodName) jdk_29_method_65_code (2 : Nat) (Option.some Jvm.ClassFile.FieldType.int)).before args0 about1 = true := code_word (m := ⟨3, 1⟩) (meth := k3m1) (c := k3c1) (by decide +kernel) rfl rfl rfl (by decide +kernel)
set_option maxRecDepth 65536 in
theorem w_c4 : (Jvm.Cond.code ({ cls := "com/example/inwrap/inwrap/CborWriter", name := "toByteArray", desc := "()[B" } : Jvm.MethodName) prog_3_method_10_code (1 : Nat) (Option.some (Jvm.ClassFile.FieldType.array Jvm.ClassFile.FieldType.byte))).before args0 about1 = true := code_word (m := ⟨2, 3⟩) (meth := k2m3) (c := k2c3) (by decide +kernel) rfl rfl rfl (by decide +kernel)
set_option maxRecDepth 65536 in
theorem w_c5 : (Jvm.Cond.code ({ cls := "java/util/Arrays", name := "copyOf", desc := "([BI)[B" } : Jvm.MethodName) jdk_65_method_121_code (3 : Nat) (Option.some (Jvm.ClassFile.FieldType.array Jvm.ClassFile.FieldType.byte))).before args0 about1 = true := code_word (m := ⟨4, 1⟩) (meth := k4m1) (c := k4c1) (by decide +kernel) rfl rfl rfl (by decide +kernel)
set_option maxRecDepth 65536 in
theorem w_c6 : (Jvm.Cond.code ({ cls := "java/lang/Math", name := "min", desc := "(II)I" } : Jvm.MethodName) jdk_29_method_69_code (2 : Nat) (Option.some Jvm.ClassFile.FieldType.int)).before args0 about1 = true := code_word (m := ⟨3, 2⟩) (meth := k3m2) (c := k3c2) (by decide +kernel) rfl rfl rfl (by decide +kernel)
set_option maxRecDepth 65536 in
theorem w_c7 : (Jvm.Cond.code ({ cls := "com/example/inwrap/inwrap/CborWriter", name := "writeUnsigned", desc := "(J)V" } : Jvm.MethodName) prog_3_method_2_code (3 : Nat) (Option.none : Option Jvm.ClassFile.FieldType)).before args0 about1 = true := code_word (m := ⟨2, 1⟩) (meth := k2m1) (c := k2c1) (by decide +kernel) rfl rfl rfl (by decide +kernel)
set_option maxRecDepth 65536 in
theorem w_c8 : (Jvm.Cond.code ({ cls := "com/example/inwrap/inwrap/CborWriter", name := "writeHead", desc := "(IJ)V" } : Jvm.MethodName) prog_3_method_11_code (8 : Nat) (Option.none : Option Jvm.ClassFile.FieldType)).before args0 about1 = true := code_word (m := ⟨2, 4⟩) (meth := k2m4) (c := k2c4) (by decide +kernel) rfl rfl rfl (by decide +kernel)
set_option maxRecDepth 65536 in
theorem w_c9 : (Jvm.Cond.code ({ cls := "com/example/inwrap/inwrap/CborWriter", name := "ensure", desc := "(I)V" } : Jvm.MethodName) prog_3_method_12_code (2 : Nat) (Option.none : Option Jvm.ClassFile.FieldType)).before args0 about1 = true := code_word (m := ⟨2, 5⟩) (meth := k2m5) (c := k2c5) (by decide +kernel) rfl rfl rfl (by decide +kernel)
set_option maxRecDepth 65536 in
theorem w_c10 : (Jvm.Cond.code ({ cls := "com/example/inwrap/inwrap/CborWriter", name := "writeNegative", desc := "(J)V" } : Jvm.MethodName) prog_3_method_3_code (3 : Nat) (Option.none : Option Jvm.ClassFile.FieldType)).before args0 about1 = true := code_word (m := ⟨2, 2⟩) (meth := k2m2) (c := k2c2) (by decide +kernel) rfl rfl rfl (by decide +kernel)
set_option maxRecDepth 65536 in
theorem w_c11 : (Jvm.Cond.code ({ cls := "com/example/inwrap/inwrap/CborWriterToByteArrayPinLaw", name := "headLen", desc := "(J)I" } : Jvm.MethodName) method_2_code (2 : Nat) (Option.some Jvm.ClassFile.FieldType.int)).before args0 about1 = true := code_word (m := ⟨1, 1⟩) (meth := k1m1) (c := k1c1) (by decide +kernel) rfl rfl rfl (by decide +kernel)
set_option maxRecDepth 65536 in
theorem w_c12 : (Jvm.Cond.code ({ cls := "com/example/inwrap/inwrap/CborReader", name := "<init>", desc := "([B)V" } : Jvm.MethodName) prog_2_method_1_code (2 : Nat) (Option.none : Option Jvm.ClassFile.FieldType)).before args0 about1 = true := code_word (m := ⟨6, 0⟩) (meth := k6m0) (c := k6c0) (by decide +kernel) rfl rfl rfl (by decide +kernel)
set_option maxRecDepth 65536 in
theorem w_c13 : (Jvm.Cond.code ({ cls := "com/example/inwrap/inwrap/CborReader", name := "readUnsigned", desc := "()J" } : Jvm.MethodName) prog_2_method_6_code (1 : Nat) (Option.some Jvm.ClassFile.FieldType.long)).before args0 about1 = true := code_word (m := ⟨6, 2⟩) (meth := k6m2) (c := k6c2) (by decide +kernel) rfl rfl rfl (by decide +kernel)
set_option maxRecDepth 65536 in
theorem w_c14 : (Jvm.Cond.code ({ cls := "com/example/inwrap/inwrap/CborReader", name := "readArgument", desc := "(I)J" } : Jvm.MethodName) prog_2_method_20_code (9 : Nat) (Option.some Jvm.ClassFile.FieldType.long)).before args0 about1 = true := code_word (m := ⟨6, 4⟩) (meth := k6m4) (c := k6c4) (by decide +kernel) rfl rfl rfl (by decide +kernel)
set_option maxRecDepth 65536 in
theorem w_c15 : (Jvm.Cond.code ({ cls := "com/example/inwrap/inwrap/CborReader", name := "need", desc := "(I)V" } : Jvm.MethodName) prog_2_method_24_code (2 : Nat) (Option.none : Option Jvm.ClassFile.FieldType)).before args0 about1 = true := code_word (m := ⟨6, 5⟩) (meth := k6m5) (c := k6c5) (by decide +kernel) rfl rfl rfl (by decide +kernel)
set_option maxRecDepth 65536 in
theorem w_c16 : (Jvm.Cond.code ({ cls := "com/example/inwrap/inwrap/CborReader", name := "readNegative", desc := "()J" } : Jvm.MethodName) prog_2_method_7_code (1 : Nat) (Option.some Jvm.ClassFile.FieldType.long)).before args0 about1 = true := code_word (m := ⟨6, 3⟩) (meth := k6m3) (c := k6c3) (by decide +kernel) rfl rfl rfl (by decide +kernel)
set_option maxRecDepth 65536 in
theorem w_c17 : (Jvm.Cond.code ({ cls := "com/example/inwrap/inwrap/CborReader", name := "position", desc := "()I" } : Jvm.MethodName) prog_2_method_3_code (1 : Nat) (Option.some Jvm.ClassFile.FieldType.int)).before args0 about1 = true := code_word (m := ⟨6, 1⟩) (meth := k6m1) (c := k6c1) (by decide +kernel) rfl rfl rfl (by decide +kernel)
def codes1 : List Jvm.Cond := [Jvm.Cond.code x code maxLocals ret, Jvm.Cond.code ({ cls := "com/example/inwrap/inwrap/CborWriter", name := "<init>", desc := "(I)V" } : Jvm.MethodName) prog_3_method_1_code (2 : Nat) (Option.none : Option Jvm.ClassFile.FieldType), Jvm.Cond.code ({ cls := "java/lang/Object", name := "<init>", desc := "()V" } : Jvm.MethodName) object_method_1_code (1 : Nat) (Option.none : Option Jvm.ClassFile.FieldType), Jvm.Cond.code ({ cls := "java/lang/Math", name := "max", desc := "(II)I" } : Jvm.MethodName) jdk_29_method_65_code (2 : Nat) (Option.some Jvm.ClassFile.FieldType.int), Jvm.Cond.code ({ cls := "com/example/inwrap/inwrap/CborWriter", name := "toByteArray", desc := "()[B" } : Jvm.MethodName) prog_3_method_10_code (1 : Nat) (Option.some (Jvm.ClassFile.FieldType.array Jvm.ClassFile.FieldType.byte)), Jvm.Cond.code ({ cls := "java/util/Arrays", name := "copyOf", desc := "([BI)[B" } : Jvm.MethodName) jdk_65_method_121_code (3 : Nat) (Option.some (Jvm.ClassFile.FieldType.array Jvm.ClassFile.FieldType.byte)), Jvm.Cond.code ({ cls := "java/lang/Math", name := "min", desc := "(II)I" } : Jvm.MethodName) jdk_29_method_69_code (2 : Nat) (Option.some Jvm.ClassFile.FieldType.int), Jvm.Cond.code ({ cls := "com/example/inwrap/inwrap/CborWriter", name := "writeUnsigned", desc := "(J)V" } : Jvm.MethodName) prog_3_method_2_code (3 : Nat) (Option.none : Option Jvm.ClassFile.FieldType), Jvm.Cond.code ({ cls := "com/example/inwrap/inwrap/CborWriter", name := "writeHead", desc := "(IJ)V" } : Jvm.MethodName) prog_3_method_11_code (8 : Nat) (Option.none : Option Jvm.ClassFile.FieldType), Jvm.Cond.code ({ cls := "com/example/inwrap/inwrap/CborWriter", name := "ensure", desc := "(I)V" } : Jvm.MethodName) prog_3_method_12_code (2 : Nat) (Option.none : Option Jvm.ClassFile.FieldType), Jvm.Cond.code ({ cls := "com/example/inwrap/inwrap/CborWriter", name := "writeNegative", desc := "(J)V" } : Jvm.MethodName) prog_3_method_3_code (3 : Nat) (Option.none : Option Jvm.ClassFile.FieldType), Jvm.Cond.code ({ cls := "com/example/inwrap/inwrap/CborWriterToByteArrayPinLaw", name := "headLen", desc := "(J)I" } : Jvm.MethodName) method_2_code (2 : Nat) (Option.some Jvm.ClassFile.FieldType.int), Jvm.Cond.code ({ cls := "com/example/inwrap/inwrap/CborReader", name := "<init>", desc := "([B)V" } : Jvm.MethodName) prog_2_method_1_code (2 : Nat) (Option.none : Option Jvm.ClassFile.FieldType), Jvm.Cond.code ({ cls := "com/example/inwrap/inwrap/CborReader", name := "readUnsigned", desc := "()J" } : Jvm.MethodName) prog_2_method_6_code (1 : Nat) (Option.some Jvm.ClassFile.FieldType.long), Jvm.Cond.code ({ cls := "com/example/inwrap/inwrap/CborReader", name := "readArgument", desc := "(I)J" } : Jvm.MethodName) prog_2_method_20_code (9 : Nat) (Option.some Jvm.ClassFile.FieldType.long), Jvm.Cond.code ({ cls := "com/example/inwrap/inwrap/CborReader", name := "need", desc := "(I)V" } : Jvm.MethodName) prog_2_method_24_code (2 : Nat) (Option.none : Option Jvm.ClassFile.FieldType), Jvm.Cond.code ({ cls := "com/example/inwrap/inwrap/CborReader", name := "readNegative", desc := "()J" } : Jvm.MethodName) prog_2_method_7_code (1 : Nat) (Option.some Jvm.ClassFile.FieldType.long), Jvm.Cond.code ({ cls := "com/example/inwrap/inwrap/CborReader", name := "position", desc := "()I" } : Jvm.MethodName) prog_2_method_3_code (1 : Nat) (Option.some Jvm.ClassFile.FieldType.int)]
set_option maxRecDepth 65536 in
theorem codes_eq : words1.filter isCode = codes1 := rfl
theorem w_codes : ∀ c ∈ words1.filter isCode, c.before args0 about1 = true := by
  rw [codes_eq]
  intro c hc
  simp only [codes1, List.mem_cons, List.not_mem_nil, or_false] at hc
  rcases hc with rfl | rfl | rfl | rfl | rfl | rfl | rfl | rfl | rfl | rfl | rfl | rfl | rfl | rfl | rfl | rfl | rfl | rfl
  · exact w_c0
  · exact w_c1
  · exact w_c2
  · exact w_c3
  · exact w_c4
  · exact w_c5
  · exact w_c6
  · exact w_c7
  · exact w_c8
  · exact w_c9
  · exact w_c10
  · exact w_c11
  · exact w_c12
  · exact w_c13
  · exact w_c14
  · exact w_c15
  · exact w_c16
  · exact w_c17
set_option maxRecDepth 65536 in
theorem w_t1 : (words1.take 24).all (fun c => isCode c || c.before args0 about1) = true := by decide +kernel
set_option maxRecDepth 65536 in
theorem w_t2 : ((words1.drop 24).take 24).all (fun c => isCode c || c.before args0 about1) = true := by decide +kernel
set_option maxRecDepth 65536 in
theorem w_t3 : (((words1.drop 24).drop 24).take 24).all (fun c => isCode c || c.before args0 about1) = true := by decide +kernel
set_option maxRecDepth 65536 in
theorem w_t4 : ((((words1.drop 24).drop 24).drop 24).take 24).all (fun c => isCode c || c.before args0 about1) = true := by decide +kernel
set_option maxRecDepth 65536 in
theorem w_t5 : ((((words1.drop 24).drop 24).drop 24).drop 24).all (fun c => isCode c || c.before args0 about1) = true := by decide +kernel
theorem w_tables : (allAtoms (Jvm.Cond.code x code maxLocals ret :: tables_1)).before args0 about1 = true := by
  rw [allAtoms_all]
  show words1.all (fun c => c.before args0 about1) = true
  refine all_split ?_ w_codes
  rw [← List.take_append_drop 24 words1, List.all_append, w_t1, ← List.take_append_drop 24 (words1.drop 24), List.all_append, w_t2, ← List.take_append_drop 24 ((words1.drop 24).drop 24), List.all_append, w_t3, ← List.take_append_drop 24 (((words1.drop 24).drop 24).drop 24), List.all_append, w_t4, w_t5]
  rfl
set_option maxRecDepth 65536 in
theorem w_case : (Jvm.Cond.and given_1 narrow_1).before args0 about1 = true := by decide +kernel
theorem w_applies : (headSpec (Jvm.Cond.code x code maxLocals ret :: tables_1) room_1).applies x e0.platform about1 = true :=
  (Spec.applies_iff w_frames).mpr ⟨w_running, w_runnable, w_alone, w_named, w_hears, w_ripe, w_room, w_tables⟩
theorem atStart : AtStart classFile x code maxLocals ret World_1 tables_1 room_1 Calls_1 rest_1 Pre_1 launch0 p0 e0 about1 theMethod args0 below0 :=
  ⟨lists_1, trivial, launch0.admits_env _ _ _, launch0.least_env, fairChoices_fair.cas, fairChoices_fair.clock, w_frames, w_args, w_heap, w_applies, trivial, trivial, w_case⟩
end start1
theorem witness_1 : WitnessClaimed_1 := ⟨start1.p0, start1.e0, start1.about1, start1.theMethod, start1.args0, start1.below0, start1.atStart⟩
end Jvm.Pilot.@@N@@
