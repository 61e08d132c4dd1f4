import JvmDerived
import JvmDerived.Pilot.@@N@@Statement
import JvmDerived.Pilot.@@N@@Code
set_option linter.unusedVariables false
set_option linter.unusedSimpArgs false
@@BLOCK:NumsL.lean.txt@@
namespace Jvm.Pilot.@@N@@
open Jvm Jvm.ClassFile Sem Op Lib Jvm.Free Jvm.Stand Jvm.LawKit Jvm.RoadKit Bundle Jvm.Pilot.@@N@@.Jvm.D

section OwnKit
variable {p : Program} {l : Launch} {e : Env} {R : Room} {s : State} {m : MethodId} {args : Array Value} {below : List Frame} {meth : Method} {c : Code} {T T' : State} {locs : List Loc} {cells slots C S : Nat} {Nd : Outcome → State → List Loc → Prop} {Q : Option Value → Heap → List Loc → Prop} {pc n : Nat} {Ls Ls' : Array Slot} {st : List Value} {g g' : JFrame} {Z : State} {a0 : Array Value} {h : Heap}
/-- from T, with the frame g on top, the method comes to its end, and Q is said of what it returns, of the heap and of the places written -/
def Go (p : Program) (e : Env) (below : List Frame) (Nd : Outcome → State → List Loc → Prop) (Q : Option Value → Heap → List Loc → Prop) (T : State) (g : JFrame) : Prop :=
  ∃ s₂ o, Steps p.tables e below (T.setTop g) s₂ ∧ s₂.status = .running ∧ Ended s₂ below o ∧ ∃ v L, o = .returned v ∧ Q v s₂.heap L ∧ Nd o s₂ L
/-- the narrow end, and the wide one (String constants may have come) -/
def Fe (s : State) (C S : Nat) (o : Outcome) (t : State) (L : List Loc) : Prop := FrameEnd s o t L C S
def Fw (s : State) (C S : Nat) (o : Outcome) (t : State) (L : List Loc) : Prop := ReturnedEndW s o t L C S
theorem Fe.of {v : Option Value} (hC : cells ≤ C) (hS : slots ≤ S) : ∀ t, FrameEnd s (.returned v) t locs cells slots → t.heap = T.heap → Fe s C S (.returned v) t locs := fun t q _ => ⟨q.1, q.2.1, q.2.2.mono hC hS⟩
theorem Go.stp (q : ∀ t, Steps p.tables e below (T'.setTop g') t → Steps p.tables e below (T.setTop g) t) (k : Go p e below Nd Q T' g') : Go p e below Nd Q T g := by
  obtain ⟨s₂, o, h1, h2⟩ := k; exact ⟨s₂, o, q _ h1, h2⟩
theorem Go.tr (q : Steps p.tables e below (T.setTop g) (T'.setTop g')) (k : Go p e below Nd Q T' g') : Go p e below Nd Q T g := Go.stp (fun _ r => q.trans r) k
theorem Go.mono {Q' : Option Value → Heap → List Loc → Prop} (k : Go p e below Nd Q T g) (q : ∀ v h L, Q v h L → Q' v h L) : Go p e below Nd Q' T g := by
  obtain ⟨s₂, o, h1, h2, h3, v, L, h4, h5, h6⟩ := k; exact ⟨s₂, o, h1, h2, h3, v, L, h4, q _ _ _ h5, h6⟩
theorem g_aloadN (X : Stand p l e R s m args below meth c T locs cells slots) (hx : p.tables.exec = Jvm.exec) {k : Fin 4} {v : Value} (hd : decode c.code pc = .ok (.aload_n k, 1)) (hn : pc + 1 = n) (hl : Ls[k.val]? = some (.val v)) (hv : v.isRef = true) (k : Go p e below Nd Q T (mkF m n Ls (v :: st))) : Go p e below Nd Q T (mkF m pc Ls st) := by
  subst hn; exact Go.stp (fun t q => XS.aloadN X.here hx rfl hd hl hv q) k
theorem g_aload (X : Stand p l e R s m args below meth c T locs cells slots) (hx : p.tables.exec = Jvm.exec) {k : Nat} {v : Value} (hd : decode c.code pc = .ok (.aload k, 2)) (hn : pc + 2 = n) (hl : Ls[k]? = some (.val v)) (hv : v.isRef = true) (k : Go p e below Nd Q T (mkF m n Ls (v :: st))) : Go p e below Nd Q T (mkF m pc Ls st) := by
  subst hn; exact Go.stp (fun t q => XS.aload X.here hx rfl hd hl hv q) k
theorem g_iloadN (X : Stand p l e R s m args below meth c T locs cells slots) (hx : p.tables.exec = Jvm.exec) {k : Fin 4} {v : Int32} (hd : decode c.code pc = .ok (.iload_n k, 1)) (hn : pc + 1 = n) (hl : Ls[k.val]? = some (.val (.int v))) (k : Go p e below Nd Q T (mkF m n Ls (.int v :: st))) : Go p e below Nd Q T (mkF m pc Ls st) := by
  subst hn; exact Go.stp (fun t q => XS.iloadN X.here hx rfl hd hl q) k
theorem g_iload (X : Stand p l e R s m args below meth c T locs cells slots) (hx : p.tables.exec = Jvm.exec) {k : Nat} {v : Int32} (hd : decode c.code pc = .ok (.iload k, 2)) (hn : pc + 2 = n) (hl : Ls[k]? = some (.val (.int v))) (k : Go p e below Nd Q T (mkF m n Ls (.int v :: st))) : Go p e below Nd Q T (mkF m pc Ls st) := by
  subst hn; exact Go.stp (fun t q => XS.iload X.here hx rfl hd hl q) k
theorem g_istoreN (X : Stand p l e R s m args below meth c T locs cells slots) (hx : p.tables.exec = Jvm.exec) {k : Fin 4} {v : Int32} (hd : decode c.code pc = .ok (.istore_n k, 1)) (hn : pc + 1 = n) (Ls' : Array Slot) (hl : storeLocals Ls k.val (.int v) = some Ls') (k : Go p e below Nd Q T (mkF m n Ls' st)) : Go p e below Nd Q T (mkF m pc Ls (.int v :: st)) := by
  subst hn; exact Go.stp (fun t q => XS.istoreN X.here hx rfl hd rfl hl q) k
theorem g_istore (X : Stand p l e R s m args below meth c T locs cells slots) (hx : p.tables.exec = Jvm.exec) {k : Nat} {v : Int32} (hd : decode c.code pc = .ok (.istore k, 2)) (hn : pc + 2 = n) (Ls' : Array Slot) (hl : storeLocals Ls k (.int v) = some Ls') (k : Go p e below Nd Q T (mkF m n Ls' st)) : Go p e below Nd Q T (mkF m pc Ls (.int v :: st)) := by
  subst hn; exact Go.stp (fun t q => XS.istore X.here hx rfl hd rfl hl q) k
theorem g_lloadN (X : Stand p l e R s m args below meth c T locs cells slots) (hx : p.tables.exec = Jvm.exec) {k : Fin 4} {v : Int64} (hd : decode c.code pc = .ok (.lload_n k, 1)) (hn : pc + 1 = n) (hl : Ls[k.val]? = some (.val (.long v))) (k : Go p e below Nd Q T (mkF m n Ls (.long v :: st))) : Go p e below Nd Q T (mkF m pc Ls st) := by
  subst hn; exact Go.stp (fun t q => XT.lloadN X.here hx rfl hd hl q) k
theorem g_lload (X : Stand p l e R s m args below meth c T locs cells slots) (hx : p.tables.exec = Jvm.exec) {k : Nat} {v : Int64} (hd : decode c.code pc = .ok (.lload k, 2)) (hn : pc + 2 = n) (hl : Ls[k]? = some (.val (.long v))) (k : Go p e below Nd Q T (mkF m n Ls (.long v :: st))) : Go p e below Nd Q T (mkF m pc Ls st) := by
  subst hn; exact Go.stp (fun t q => XT.lload X.here hx rfl hd hl q) k
theorem g_lstoreN (X : Stand p l e R s m args below meth c T locs cells slots) (hx : p.tables.exec = Jvm.exec) {k : Fin 4} {v : Int64} (hd : decode c.code pc = .ok (.lstore_n k, 1)) (hn : pc + 1 = n) (Ls' : Array Slot) (hl : storeLocals Ls k.val (.long v) = some Ls') (k : Go p e below Nd Q T (mkF m n Ls' st)) : Go p e below Nd Q T (mkF m pc Ls (.long v :: st)) := by
  subst hn; exact Go.stp (fun t q => XT.lstoreN X.here hx rfl hd rfl hl q) k
theorem g_lstore (X : Stand p l e R s m args below meth c T locs cells slots) (hx : p.tables.exec = Jvm.exec) {k : Nat} {v : Int64} (hd : decode c.code pc = .ok (.lstore k, 2)) (hn : pc + 2 = n) (Ls' : Array Slot) (hl : storeLocals Ls k (.long v) = some Ls') (k : Go p e below Nd Q T (mkF m n Ls' st)) : Go p e below Nd Q T (mkF m pc Ls (.long v :: st)) := by
  subst hn; exact Go.stp (fun t q => XT.lstore X.here hx rfl hd rfl hl q) k
theorem g_astoreN (X : Stand p l e R s m args below meth c T locs cells slots) (hx : p.tables.exec = Jvm.exec) {k : Fin 4} {v : Value} (hd : decode c.code pc = .ok (.astore_n k, 1)) (hn : pc + 1 = n) (hv : v.isRef = true) (Ls' : Array Slot) (hl : storeLocals Ls k.val v = some Ls') (k : Go p e below Nd Q T (mkF m n Ls' st)) : Go p e below Nd Q T (mkF m pc Ls (v :: st)) := by
  subst hn; exact Go.stp (fun t q => XS.astoreN X.here hx rfl hd rfl hv hl q) k
theorem g_astore (X : Stand p l e R s m args below meth c T locs cells slots) (hx : p.tables.exec = Jvm.exec) {k : Nat} {v : Value} (hd : decode c.code pc = .ok (.astore k, 2)) (hn : pc + 2 = n) (hv : v.isRef = true) (Ls' : Array Slot) (hl : storeLocals Ls k v = some Ls') (k : Go p e below Nd Q T (mkF m n Ls' st)) : Go p e below Nd Q T (mkF m pc Ls (v :: st)) := by
  subst hn; exact Go.stp (fun t q => XS.astore X.here hx rfl hd rfl hv hl q) k
theorem g_iconst (X : Stand p l e R s m args below meth c T locs cells slots) (hx : p.tables.exec = Jvm.exec) {i : Int} (v : Int32) (hd : decode c.code pc = .ok (.iconst i, 1)) (hn : pc + 1 = n) (hv : Int32.ofInt i = v) (k : Go p e below Nd Q T (mkF m n Ls (.int v :: st))) : Go p e below Nd Q T (mkF m pc Ls st) := by
  subst hn hv; exact Go.stp (fun t q => XS.iconst X.here hx rfl hd q) k
theorem g_bipush (X : Stand p l e R s m args below meth c T locs cells slots) (hx : p.tables.exec = Jvm.exec) {i : Int} (v : Int32) (hd : decode c.code pc = .ok (.bipush i, 2)) (hn : pc + 2 = n) (hv : (Int8.ofInt i).toInt32 = v) (k : Go p e below Nd Q T (mkF m n Ls (.int v :: st))) : Go p e below Nd Q T (mkF m pc Ls st) := by
  subst hn hv; exact Go.stp (fun t q => XS.bipush X.here hx rfl hd q) k
theorem g_sipush (X : Stand p l e R s m args below meth c T locs cells slots) (hx : p.tables.exec = Jvm.exec) {i : Int} (v : Int32) (hd : decode c.code pc = .ok (.sipush i, 3)) (hn : pc + 3 = n) (hv : (Int16.ofInt i).toInt32 = v) (k : Go p e below Nd Q T (mkF m n Ls (.int v :: st))) : Go p e below Nd Q T (mkF m pc Ls st) := by
  subst hn hv; exact Go.stp (fun t q => XS.sipush X.here hx rfl hd q) k
theorem g_lconst (X : Stand p l e R s m args below meth c T locs cells slots) (hx : p.tables.exec = Jvm.exec) {j : Fin 2} (v : Int64) (hd : decode c.code pc = .ok (.lconst j, 1)) (hn : pc + 1 = n) (hv : Int64.ofNat j = v) (k : Go p e below Nd Q T (mkF m n Ls (.long v :: st))) : Go p e below Nd Q T (mkF m pc Ls st) := by
  subst hn hv; exact Go.stp (fun t q => XT.lconst X.here hx rfl hd q) k
theorem g_aconstNull (X : Stand p l e R s m args below meth c T locs cells slots) (hx : p.tables.exec = Jvm.exec) (hd : decode c.code pc = .ok (.aconst_null, 1)) (hn : pc + 1 = n) (k : Go p e below Nd Q T (mkF m n Ls (.null :: st))) : Go p e below Nd Q T (mkF m pc Ls st) := by
  subst hn; exact Go.stp (fun t q => XS.aconstNull X.here hx rfl hd q) k
theorem g_iadd (X : Stand p l e R s m args below meth c T locs cells slots) (hx : p.tables.exec = Jvm.exec) {x y : Int32} (hd : decode c.code pc = .ok (.iadd, 1)) (hn : pc + 1 = n) (k : Go p e below Nd Q T (mkF m n Ls (.int (x + y) :: st))) : Go p e below Nd Q T (mkF m pc Ls (.int y :: .int x :: st)) := by
  subst hn; exact Go.stp (fun t q => XS.iadd X.here hx rfl hd rfl q) k
theorem g_isub (X : Stand p l e R s m args below meth c T locs cells slots) (hx : p.tables.exec = Jvm.exec) {x y : Int32} (hd : decode c.code pc = .ok (.isub, 1)) (hn : pc + 1 = n) (k : Go p e below Nd Q T (mkF m n Ls (.int (x - y) :: st))) : Go p e below Nd Q T (mkF m pc Ls (.int y :: .int x :: st)) := by
  subst hn; exact Go.stp (fun t q => XS.isub X.here hx rfl hd rfl q) k
theorem g_imul (X : Stand p l e R s m args below meth c T locs cells slots) (hx : p.tables.exec = Jvm.exec) {x y : Int32} (hd : decode c.code pc = .ok (.imul, 1)) (hn : pc + 1 = n) (k : Go p e below Nd Q T (mkF m n Ls (.int (x * y) :: st))) : Go p e below Nd Q T (mkF m pc Ls (.int y :: .int x :: st)) := by
  subst hn; exact Go.stp (fun t q => XS.imul X.here hx rfl hd rfl q) k
theorem g_iand (X : Stand p l e R s m args below meth c T locs cells slots) (hx : p.tables.exec = Jvm.exec) {x y : Int32} (hd : decode c.code pc = .ok (.iand, 1)) (hn : pc + 1 = n) (k : Go p e below Nd Q T (mkF m n Ls (.int (x &&& y) :: st))) : Go p e below Nd Q T (mkF m pc Ls (.int y :: .int x :: st)) := by
  subst hn; exact Go.stp (fun t q => XS.iand X.here hx rfl hd rfl q) k
theorem g_ior (X : Stand p l e R s m args below meth c T locs cells slots) (hx : p.tables.exec = Jvm.exec) {x y : Int32} (hd : decode c.code pc = .ok (.ior, 1)) (hn : pc + 1 = n) (k : Go p e below Nd Q T (mkF m n Ls (.int (x ||| y) :: st))) : Go p e below Nd Q T (mkF m pc Ls (.int y :: .int x :: st)) := by
  subst hn; exact Go.stp (fun t q => XT.ior X.here hx rfl hd rfl q) k
theorem g_ixor (X : Stand p l e R s m args below meth c T locs cells slots) (hx : p.tables.exec = Jvm.exec) {x y : Int32} (hd : decode c.code pc = .ok (.ixor, 1)) (hn : pc + 1 = n) (k : Go p e below Nd Q T (mkF m n Ls (.int (x ^^^ y) :: st))) : Go p e below Nd Q T (mkF m pc Ls (.int y :: .int x :: st)) := by
  subst hn; exact Go.stp (fun t q => XT.ixor X.here hx rfl hd rfl q) k
theorem g_ishl (X : Stand p l e R s m args below meth c T locs cells slots) (hx : p.tables.exec = Jvm.exec) {x y : Int32} (hd : decode c.code pc = .ok (.ishl, 1)) (hn : pc + 1 = n) (k : Go p e below Nd Q T (mkF m n Ls (.int (x <<< (y &&& 31)) :: st))) : Go p e below Nd Q T (mkF m pc Ls (.int y :: .int x :: st)) := by
  subst hn; exact Go.stp (fun t q => XT.ishl X.here hx rfl hd rfl q) k
theorem g_ishr (X : Stand p l e R s m args below meth c T locs cells slots) (hx : p.tables.exec = Jvm.exec) {x y : Int32} (hd : decode c.code pc = .ok (.ishr, 1)) (hn : pc + 1 = n) (k : Go p e below Nd Q T (mkF m n Ls (.int (x >>> (y &&& 31)) :: st))) : Go p e below Nd Q T (mkF m pc Ls (.int y :: .int x :: st)) := by
  subst hn; exact Go.stp (fun t q => XT.ishr X.here hx rfl hd rfl q) k
theorem g_iushr (X : Stand p l e R s m args below meth c T locs cells slots) (hx : p.tables.exec = Jvm.exec) {x y : Int32} (hd : decode c.code pc = .ok (.iushr, 1)) (hn : pc + 1 = n) (k : Go p e below Nd Q T (mkF m n Ls (.int (XT.ushr x y) :: st))) : Go p e below Nd Q T (mkF m pc Ls (.int y :: .int x :: st)) := by
  subst hn; exact Go.stp (fun t q => XT.iushr X.here hx rfl hd rfl q) k
theorem g_irem (X : Stand p l e R s m args below meth c T locs cells slots) (hx : p.tables.exec = Jvm.exec) {x y : Int32} (hd : decode c.code pc = .ok (.irem, 1)) (hn : pc + 1 = n) (hy : y ≠ 0) (k : Go p e below Nd Q T (mkF m n Ls (.int (x % y) :: st))) : Go p e below Nd Q T (mkF m pc Ls (.int y :: .int x :: st)) := by
  subst hn; exact Go.stp (fun t q => iremM X hx rfl hd rfl hy q) k
theorem g_ladd (X : Stand p l e R s m args below meth c T locs cells slots) (hx : p.tables.exec = Jvm.exec) {x y : Int64} (hd : decode c.code pc = .ok (.ladd, 1)) (hn : pc + 1 = n) (k : Go p e below Nd Q T (mkF m n Ls (.long (x + y) :: st))) : Go p e below Nd Q T (mkF m pc Ls (.long y :: .long x :: st)) := by
  subst hn; exact Go.stp (fun t q => XT.ladd X.here hx rfl hd rfl q) k
theorem g_lsub (X : Stand p l e R s m args below meth c T locs cells slots) (hx : p.tables.exec = Jvm.exec) {x y : Int64} (hd : decode c.code pc = .ok (.lsub, 1)) (hn : pc + 1 = n) (k : Go p e below Nd Q T (mkF m n Ls (.long (x - y) :: st))) : Go p e below Nd Q T (mkF m pc Ls (.long y :: .long x :: st)) := by
  subst hn; exact Go.stp (fun t q => XT.lsub X.here hx rfl hd rfl q) k
theorem g_lmul (X : Stand p l e R s m args below meth c T locs cells slots) (hx : p.tables.exec = Jvm.exec) {x y : Int64} (hd : decode c.code pc = .ok (.lmul, 1)) (hn : pc + 1 = n) (k : Go p e below Nd Q T (mkF m n Ls (.long (x * y) :: st))) : Go p e below Nd Q T (mkF m pc Ls (.long y :: .long x :: st)) := by
  subst hn; exact Go.stp (fun t q => XT.lmul X.here hx rfl hd rfl q) k
theorem g_land (X : Stand p l e R s m args below meth c T locs cells slots) (hx : p.tables.exec = Jvm.exec) {x y : Int64} (hd : decode c.code pc = .ok (.land, 1)) (hn : pc + 1 = n) (k : Go p e below Nd Q T (mkF m n Ls (.long (x &&& y) :: st))) : Go p e below Nd Q T (mkF m pc Ls (.long y :: .long x :: st)) := by
  subst hn; exact Go.stp (fun t q => XT.land X.here hx rfl hd rfl q) k
theorem g_ldiv (X : Stand p l e R s m args below meth c T locs cells slots) (hx : p.tables.exec = Jvm.exec) {x y : Int64} (hd : decode c.code pc = .ok (.ldiv, 1)) (hn : pc + 1 = n) (hy : y ≠ 0) (k : Go p e below Nd Q T (mkF m n Ls (.long (x / y) :: st))) : Go p e below Nd Q T (mkF m pc Ls (.long y :: .long x :: st)) := by
  subst hn; exact Go.stp (fun t q => XT.ldiv X.here hx rfl hd rfl hy q) k
theorem g_lrem (X : Stand p l e R s m args below meth c T locs cells slots) (hx : p.tables.exec = Jvm.exec) {x y : Int64} (hd : decode c.code pc = .ok (.lrem, 1)) (hn : pc + 1 = n) (hy : y ≠ 0) (k : Go p e below Nd Q T (mkF m n Ls (.long (x - (x / y) * y) :: st))) : Go p e below Nd Q T (mkF m pc Ls (.long y :: .long x :: st)) := by
  subst hn; exact Go.stp (fun t q => XT.lrem X.here hx rfl hd rfl hy q) k
theorem g_lcmp (X : Stand p l e R s m args below meth c T locs cells slots) (hx : p.tables.exec = Jvm.exec) {x y : Int64} (hd : decode c.code pc = .ok (.lcmp, 1)) (hn : pc + 1 = n) (k : Go p e below Nd Q T (mkF m n Ls (.int (XT.cmpL x y) :: st))) : Go p e below Nd Q T (mkF m pc Ls (.long y :: .long x :: st)) := by
  subst hn; exact Go.stp (fun t q => XT.lcmp X.here hx rfl hd rfl q) k
theorem g_lshr (X : Stand p l e R s m args below meth c T locs cells slots) (hx : p.tables.exec = Jvm.exec) {x : Int64} {y : Int32} (hd : decode c.code pc = .ok (.lshr, 1)) (hn : pc + 1 = n) (k : Go p e below Nd Q T (mkF m n Ls (.long (x >>> (y.toInt64 &&& 63)) :: st))) : Go p e below Nd Q T (mkF m pc Ls (.int y :: .long x :: st)) := by
  subst hn; exact Go.stp (fun t q => XT.lshr X.here hx rfl hd rfl q) k
theorem g_lushr (X : Stand p l e R s m args below meth c T locs cells slots) (hx : p.tables.exec = Jvm.exec) {x : Int64} {y : Int32} (hd : decode c.code pc = .ok (.lushr, 1)) (hn : pc + 1 = n) (k : Go p e below Nd Q T (mkF m n Ls (.long (XT.ushrL x y) :: st))) : Go p e below Nd Q T (mkF m pc Ls (.int y :: .long x :: st)) := by
  subst hn; exact Go.stp (fun t q => XT.lushr X.here hx rfl hd rfl q) k
theorem g_lneg (X : Stand p l e R s m args below meth c T locs cells slots) (hx : p.tables.exec = Jvm.exec) {x : Int64} (hd : decode c.code pc = .ok (.lneg, 1)) (hn : pc + 1 = n) (k : Go p e below Nd Q T (mkF m n Ls (.long (-x) :: st))) : Go p e below Nd Q T (mkF m pc Ls (.long x :: st)) := by
  subst hn; exact Go.stp (fun t q => XT.lneg X.here hx rfl hd rfl q) k
theorem g_i2l (X : Stand p l e R s m args below meth c T locs cells slots) (hx : p.tables.exec = Jvm.exec) {x : Int32} (hd : decode c.code pc = .ok (.i2l, 1)) (hn : pc + 1 = n) (k : Go p e below Nd Q T (mkF m n Ls (.long x.toInt64 :: st))) : Go p e below Nd Q T (mkF m pc Ls (.int x :: st)) := by
  subst hn; exact Go.stp (fun t q => XT.i2l X.here hx rfl hd rfl q) k
theorem g_l2i (X : Stand p l e R s m args below meth c T locs cells slots) (hx : p.tables.exec = Jvm.exec) {x : Int64} (hd : decode c.code pc = .ok (.l2i, 1)) (hn : pc + 1 = n) (k : Go p e below Nd Q T (mkF m n Ls (.int x.toInt32 :: st))) : Go p e below Nd Q T (mkF m pc Ls (.long x :: st)) := by
  subst hn; exact Go.stp (fun t q => XT.l2i X.here hx rfl hd rfl q) k
theorem g_i2b (X : Stand p l e R s m args below meth c T locs cells slots) (hx : p.tables.exec = Jvm.exec) {x : Int32} (hd : decode c.code pc = .ok (.i2b, 1)) (hn : pc + 1 = n) (k : Go p e below Nd Q T (mkF m n Ls (.int x.toInt8.toInt32 :: st))) : Go p e below Nd Q T (mkF m pc Ls (.int x :: st)) := by
  subst hn; exact Go.stp (fun t q => XT.i2b X.here hx rfl hd rfl q) k
theorem g_i2c (X : Stand p l e R s m args below meth c T locs cells slots) (hx : p.tables.exec = Jvm.exec) {x : Int32} (hd : decode c.code pc = .ok (.i2c, 1)) (hn : pc + 1 = n) (k : Go p e below Nd Q T (mkF m n Ls (.int x.toUInt32.toUInt16.toUInt32.toInt32 :: st))) : Go p e below Nd Q T (mkF m pc Ls (.int x :: st)) := by
  subst hn; exact Go.stp (fun t q => XT.i2c X.here hx rfl hd rfl q) k
theorem g_dup (X : Stand p l e R s m args below meth c T locs cells slots) (hx : p.tables.exec = Jvm.exec) {x : Value} (hd : decode c.code pc = .ok (.dup, 1)) (hn : pc + 1 = n) (hc : x.category = 1) (k : Go p e below Nd Q T (mkF m n Ls (x :: x :: st))) : Go p e below Nd Q T (mkF m pc Ls (x :: st)) := by
  subst hn; exact Go.stp (fun t q => XS.dup X.here hx rfl hd rfl hc q) k
theorem g_dupX1 (X : Stand p l e R s m args below meth c T locs cells slots) (hx : p.tables.exec = Jvm.exec) {x y : Value} (hd : decode c.code pc = .ok (.dup_x1, 1)) (hn : pc + 1 = n) (hc : x.category = 1) (hc' : y.category = 1) (k : Go p e below Nd Q T (mkF m n Ls (x :: y :: x :: st))) : Go p e below Nd Q T (mkF m pc Ls (x :: y :: st)) := by
  subst hn; exact Go.stp (fun t q => XT.dupX1 X.here hx rfl hd rfl hc hc' q) k
theorem g_pop (X : Stand p l e R s m args below meth c T locs cells slots) (hx : p.tables.exec = Jvm.exec) {x : Value} (hd : decode c.code pc = .ok (.pop, 1)) (hn : pc + 1 = n) (hc : x.category = 1) (k : Go p e below Nd Q T (mkF m n Ls st)) : Go p e below Nd Q T (mkF m pc Ls (x :: st)) := by
  subst hn; exact Go.stp (fun t q => XT.pop X.here hx rfl hd rfl hc q) k
theorem g_iinc (X : Stand p l e R s m args below meth c T locs cells slots) (hx : p.tables.exec = Jvm.exec) {k : Nat} {cst : Int} {x : Int32} (hd : decode c.code pc = .ok (.iinc k cst, 3)) (hn : pc + 3 = n) (hl : Ls[k]? = some (.val (.int x))) (v : Int32) (hv : x + Int32.ofInt cst = v) (Ls' : Array Slot) (hl' : storeLocals Ls k (.int v) = some Ls') (k : Go p e below Nd Q T (mkF m n Ls' st)) : Go p e below Nd Q T (mkF m pc Ls st) := by
  subst hn hv; exact Go.stp (fun t q => XS.iinc X.here hx rfl hd hl hl' q) k
theorem g_goto (X : Stand p l e R s m args below meth c T locs cells slots) (hx : p.tables.exec = Jvm.exec) {o : Int} (hd : decode c.code pc = .ok (.goto o, 3)) (ho : 0 ≤ (pc : Int) + o) (hp : ((pc : Int) + o).toNat = n) (k : Go p e below Nd Q T (mkF m n Ls st)) : Go p e below Nd Q T (mkF m pc Ls st) :=
  Go.stp (fun t q => XS.goto X.here hx rfl rfl hd ho hp q) k
/-- a branch on an int: P is what it asks -/
theorem g_if (X : Stand p l e R s m args below meth c T locs cells slots) (hx : p.tables.exec = Jvm.exec) {cd : ClassFile.Cond} {o : Int} {x : Int32} {n' : Nat} (P : Prop) [Decidable P] (hP : ifCond.holds cd x = decide P) (hd : decode c.code pc = .ok (.ifCond cd o, 3)) (ho : 0 ≤ (pc : Int) + o) (hp : ((pc : Int) + o).toNat = n) (hn : pc + 3 = n')
    (kY : P → Go p e below Nd Q T (mkF m n Ls st)) (kN : ¬ P → Go p e below Nd Q T (mkF m n' Ls st)) : Go p e below Nd Q T (mkF m pc Ls (.int x :: st)) := by
  subst hn
  by_cases q : P
  · exact Go.stp (fun t r => XS.ifYes X.here hx rfl rfl hd rfl (by rw [hP]; exact decide_eq_true q) ho hp r) (kY q)
  · exact Go.stp (fun t r => XS.ifNo X.here hx rfl hd rfl (by rw [hP]; exact decide_eq_false q) r) (kN q)
theorem g_icmp (X : Stand p l e R s m args below meth c T locs cells slots) (hx : p.tables.exec = Jvm.exec) {cd : ClassFile.Cond} {o : Int} {x y : Int32} {n' : Nat} (P : Prop) [Decidable P] (hP : if_icmp.holds cd x y = decide P) (hd : decode c.code pc = .ok (.if_icmp cd o, 3)) (ho : 0 ≤ (pc : Int) + o) (hp : ((pc : Int) + o).toNat = n) (hn : pc + 3 = n')
    (kY : P → Go p e below Nd Q T (mkF m n Ls st)) (kN : ¬ P → Go p e below Nd Q T (mkF m n' Ls st)) : Go p e below Nd Q T (mkF m pc Ls (.int y :: .int x :: st)) := by
  subst hn
  by_cases q : P
  · exact Go.stp (fun t r => XS.icmpYes X.here hx rfl rfl hd rfl (by rw [hP]; exact decide_eq_true q) ho hp r) (kY q)
  · exact Go.stp (fun t r => XS.icmpNo X.here hx rfl hd rfl (by rw [hP]; exact decide_eq_false q) r) (kN q)
theorem own_acV (cd : ACond) (x y : Value) : XT.acmp cd x y = acV cd (decide (x = y)) := by
  cases cd <;> by_cases q : x = y <;> simp [XT.acmp, acV, q]
theorem g_acmp (X : Stand p l e R s m args below meth c T locs cells slots) (hx : p.tables.exec = Jvm.exec) {cd : ACond} {o : Int} {x y : Value} {n' : Nat} (P : Prop) [Decidable P] (hP : acV cd (decide (x = y)) = decide P) (h1 : x.isRef = true) (h2 : y.isRef = true) (hd : decode c.code pc = .ok (.if_acmp cd o, 3)) (ho : 0 ≤ (pc : Int) + o) (hp : ((pc : Int) + o).toNat = n) (hn : pc + 3 = n')
    (kY : P → Go p e below Nd Q T (mkF m n Ls st)) (kN : ¬ P → Go p e below Nd Q T (mkF m n' Ls st)) : Go p e below Nd Q T (mkF m pc Ls (y :: x :: st)) := by
  subst hn
  by_cases q : P
  · exact Go.stp (fun t r => XT.acmpYes X.here hx rfl rfl hd rfl h1 h2 (by rw [own_acV, hP]; exact decide_eq_true q) ho hp r) (kY q)
  · exact Go.stp (fun t r => XT.acmpNo X.here hx rfl hd rfl h1 h2 (by rw [own_acV, hP]; exact decide_eq_false q) r) (kN q)
theorem own_ceq (x y : Int32) : if_icmp.holds .eq x y = decide (x = y) := by by_cases q : x = y <;> simp [if_icmp.holds, q]
theorem own_cne (x y : Int32) : if_icmp.holds .ne x y = decide (¬ x = y) := by by_cases q : x = y <;> simp [if_icmp.holds, q]
theorem own_clt (x y : Int32) : if_icmp.holds .lt x y = decide (x < y) := rfl
theorem own_cge (x y : Int32) : if_icmp.holds .ge x y = decide (y ≤ x) := rfl
theorem own_cgt (x y : Int32) : if_icmp.holds .gt x y = decide (y < x) := rfl
theorem own_cle (x y : Int32) : if_icmp.holds .le x y = decide (x ≤ y) := rfl
theorem own_zeq (x : Int32) : ifCond.holds .eq x = decide (x = 0) := by rw [if0]; exact own_ceq x 0
theorem own_zne (x : Int32) : ifCond.holds .ne x = decide (¬ x = 0) := by rw [if0]; exact own_cne x 0
theorem own_zlt (x : Int32) : ifCond.holds .lt x = decide (x < 0) := rfl
theorem own_zge (x : Int32) : ifCond.holds .ge x = decide (0 ≤ x) := rfl
theorem own_zgt (x : Int32) : ifCond.holds .gt x = decide (0 < x) := rfl
theorem own_zle (x : Int32) : ifCond.holds .le x = decide (x ≤ 0) := rfl
theorem own_aeq (x y : Value) : acV .eq (decide (x = y)) = decide (x = y) := rfl
theorem own_ane (x y : Value) : acV .ne (decide (x = y)) = decide (¬ x = y) := by by_cases q : x = y <;> simp [acV, q]
theorem g_ifnullNo (X : Stand p l e R s m args below meth c T locs cells slots) (hx : p.tables.exec = Jvm.exec) {o : Int} {b : Nat} (hd : decode c.code pc = .ok (.ifnull o, 3)) (hn : pc + 3 = n) (k : Go p e below Nd Q T (mkF m n Ls st)) : Go p e below Nd Q T (mkF m pc Ls (.ref b :: st)) := by
  subst hn; exact Go.stp (fun t q => XS.ifnullNo X.here hx rfl hd rfl q) k
theorem g_ifnullYes (X : Stand p l e R s m args below meth c T locs cells slots) (hx : p.tables.exec = Jvm.exec) {o : Int} (hd : decode c.code pc = .ok (.ifnull o, 3)) (ho : 0 ≤ (pc : Int) + o) (hp : ((pc : Int) + o).toNat = n) (k : Go p e below Nd Q T (mkF m n Ls st)) : Go p e below Nd Q T (mkF m pc Ls (.null :: st)) :=
  Go.stp (fun t q => XS.ifnullYes X.here hx rfl rfl hd rfl ho hp q) k
theorem g_ifnonnullYes (X : Stand p l e R s m args below meth c T locs cells slots) (hx : p.tables.exec = Jvm.exec) {o : Int} {b : Nat} (hd : decode c.code pc = .ok (.ifnonnull o, 3)) (ho : 0 ≤ (pc : Int) + o) (hp : ((pc : Int) + o).toNat = n) (k : Go p e below Nd Q T (mkF m n Ls st)) : Go p e below Nd Q T (mkF m pc Ls (.ref b :: st)) :=
  Go.stp (fun t q => XT.ifnonnullYes X.here hx rfl rfl hd rfl ho hp q) k
/-! the ends -/
theorem g_ret (X : Stand p l e R s m args below meth c T locs cells slots) (hx : p.tables.exec = Jvm.exec) {i : Instr} {t : FieldType} {w : Value} (hret : meth.sig.returnType = some t) (hlk : meth.locks = false) (hnw : narrow t w = w)
    (hi : (i = .ireturn ∧ (t = .int ∨ t = .boolean ∨ t = .byte ∨ t = .char ∨ t = .short) ∧ ∃ z, w = .int z) ∨ (i = .lreturn ∧ t = .long ∧ ∃ z, w = .long z) ∨ (i = .dreturn ∧ t = .double ∧ ∃ z, w = .double z) ∨ (i = .freturn ∧ t = .float ∧ ∃ z, w = .float z) ∨ (i = .areturn ∧ t.isReference = true ∧ w.isRef = true))
    (hd : decode c.code pc = .ok (i, 1)) (hN : ∀ t, FrameEnd s (.returned (some w)) t locs cells slots → t.heap = T.heap → Nd (.returned (some w)) t locs) (hQ : Q (some w) T.heap locs) : Go p e below Nd Q T (mkF m pc Ls (w :: st)) := by
  obtain ⟨fs, hr, hrun, hended, hW, hsame⟩ := X.leave (v := some w) (fun q => by rw [hret] at q; cases q) hlk
  exact ⟨_, _, retOut X hx hret hnw hi hd hr, hrun, hended, _, _, rfl, hQ, hN _ ⟨⟨_, rfl⟩, hW, hsame⟩ rfl⟩
theorem g_retI (X : Stand p l e R s m args below meth c T locs cells slots) (hx : p.tables.exec = Jvm.exec) {w : Int32} (hret : meth.sig.returnType = some .int) (hlk : meth.locks = false) (hd : decode c.code pc = .ok (.ireturn, 1)) (hN : ∀ t, FrameEnd s (.returned (some (.int w))) t locs cells slots → t.heap = T.heap → Nd (.returned (some (.int w))) t locs) (hQ : Q (some (.int w)) T.heap locs) : Go p e below Nd Q T (mkF m pc Ls (.int w :: st)) :=
  g_ret X hx hret hlk rfl (Or.inl ⟨rfl, Or.inl rfl, _, rfl⟩) hd hN hQ
theorem g_retJ (X : Stand p l e R s m args below meth c T locs cells slots) (hx : p.tables.exec = Jvm.exec) {w : Int64} (hret : meth.sig.returnType = some .long) (hlk : meth.locks = false) (hd : decode c.code pc = .ok (.lreturn, 1)) (hN : ∀ t, FrameEnd s (.returned (some (.long w))) t locs cells slots → t.heap = T.heap → Nd (.returned (some (.long w))) t locs) (hQ : Q (some (.long w)) T.heap locs) : Go p e below Nd Q T (mkF m pc Ls (.long w :: st)) :=
  g_ret X hx hret hlk rfl (Or.inr (Or.inl ⟨rfl, rfl, _, rfl⟩)) hd hN hQ
theorem g_retZ (X : Stand p l e R s m args below meth c T locs cells slots) (hx : p.tables.exec = Jvm.exec) {w : Int32} (hw01 : w = 0 ∨ w = 1) (hret : meth.sig.returnType = some .boolean) (hlk : meth.locks = false) (hd : decode c.code pc = .ok (.ireturn, 1)) (hN : ∀ t, FrameEnd s (.returned (some (.int w))) t locs cells slots → t.heap = T.heap → Nd (.returned (some (.int w))) t locs) (hQ : Q (some (.int w)) T.heap locs) : Go p e below Nd Q T (mkF m pc Ls (.int w :: st)) :=
  g_ret X hx hret hlk (by rcases hw01 with rfl | rfl <;> rfl) (Or.inl ⟨rfl, Or.inr (Or.inl rfl), _, rfl⟩) hd hN hQ
theorem g_retN (X : Stand p l e R s m args below meth c T locs cells slots) (hx : p.tables.exec = Jvm.exec) {w : Int32} {t : FieldType} (ht : t = .byte ∨ t = .char ∨ t = .short) (hnw : narrow t (.int w) = .int w) (hret : meth.sig.returnType = some t) (hlk : meth.locks = false) (hd : decode c.code pc = .ok (.ireturn, 1)) (hN : ∀ t, FrameEnd s (.returned (some (.int w))) t locs cells slots → t.heap = T.heap → Nd (.returned (some (.int w))) t locs) (hQ : Q (some (.int w)) T.heap locs) : Go p e below Nd Q T (mkF m pc Ls (.int w :: st)) :=
  g_ret X hx hret hlk hnw (Or.inl ⟨rfl, by rcases ht with rfl | rfl | rfl <;> simp, _, rfl⟩) hd hN hQ
theorem g_retA (X : Stand p l e R s m args below meth c T locs cells slots) (hx : p.tables.exec = Jvm.exec) {w : Value} {t : FieldType} (hret : meth.sig.returnType = some t) (ht : t.isReference = true) (hw : w.isRef = true) (hlk : meth.locks = false) (hd : decode c.code pc = .ok (.areturn, 1)) (hN : ∀ t, FrameEnd s (.returned (some w)) t locs cells slots → t.heap = T.heap → Nd (.returned (some w)) t locs) (hQ : Q (some w) T.heap locs) : Go p e below Nd Q T (mkF m pc Ls (w :: st)) :=
  g_ret X hx hret hlk (by rcases ref_cases hw with rfl | ⟨a, rfl⟩ <;> cases t <;> first | rfl | cases ht) (Or.inr (Or.inr (Or.inr (Or.inr ⟨rfl, ht, hw⟩)))) hd hN hQ
theorem g_retV (X : Stand p l e R s m args below meth c T locs cells slots) (hx : p.tables.exec = Jvm.exec) (hret : meth.sig.returnType = none) (hlk : meth.locks = false) (hd : decode c.code pc = .ok (.return_, 1)) (hN : ∀ t, FrameEnd s (.returned none) t locs cells slots → t.heap = T.heap → Nd (.returned none) t locs) (hQ : Q none T.heap locs) : Go p e below Nd Q T (mkF m pc Ls []) := by
  obtain ⟨fs, hr, hrun, hended, hW, hsame⟩ := X.leave (v := none) (fun _ => rfl) hlk
  exact ⟨_, _, X.returnOut hx hret hd hr, hrun, hended, _, _, rfl, hQ, hN _ ⟨⟨_, rfl⟩, hW, hsame⟩ rfl⟩
/-! tables and heap -/
variable {own : String} {index : Nat}
theorem g_ldcI (X : Stand p l e R s m args below meth c T locs cells slots) (hx : p.tables.exec = Jvm.exec) (hZ : Z.Warmed39 s.vm) {v : Int32} (hown : s.vm.findClass own = some m.cls) (w : (Cond.constant own index v).before a0 Z = true) (hd : decode c.code pc = .ok (.ldc index, 2)) (hn : pc + 2 = n) (k : Go p e below Nd Q T (mkF m n Ls (.int v :: st))) : Go p e below Nd Q T (mkF m pc Ls st) := by
  subst hn; exact Go.stp (fun t q => X.ldcI hx hown (mvT hZ w) rfl hd q) k
theorem g_ldc2 (X : Stand p l e R s m args below meth c T locs cells slots) (hx : p.tables.exec = Jvm.exec) (hZ : Z.Warmed39 s.vm) {v : Int64} (hown : s.vm.findClass own = some m.cls) (w : (Cond.constantLong own index v).before a0 Z = true) (hd : decode c.code pc = .ok (.ldc2_w index, 3)) (hn : pc + 3 = n) (k : Go p e below Nd Q T (mkF m n Ls (.long v :: st))) : Go p e below Nd Q T (mkF m pc Ls st) := by
  subst hn; exact Go.stp (fun t q => X.ldc2J hx hown (mvT hZ w) rfl hd q) k
theorem g_getF (X : Stand p l e R s m args below meth c T locs cells slots) (hx : p.tables.exec = Jvm.exec) (hZ : Z.Warmed39 s.vm) {O f d : String} (hown : s.vm.findClass own = some m.cls) (w : (Cond.fieldLink own index O f d).before a0 Z = true) (eT : T.heap = h) {a : Nat} {v : Value} (F : Fld Z h a O f d v) (hd : decode c.code pc = .ok (.getfield index, 3)) (hn : pc + 3 = n)
    (k : ∀ T', Stand p l e R s m args below meth c T' locs cells slots → T'.heap = h → Go p e below Nd Q T' (mkF m n Ls (v :: st))) : Go p e below Nd Q T (mkF m pc Ls (.ref a :: st)) := by
  subst hn
  obtain ⟨T1, X1, e1, st1⟩ := getF X hx hZ hown (host := "") (Or.inl w) Via.refl eT F (g := mkF m pc Ls (.ref a :: st)) rfl rfl hd
  exact Go.stp st1 (k T1 X1 e1)
theorem g_getS (X : Stand p l e R s m args below meth c T locs cells slots) (hx : p.tables.exec = Jvm.exec) (hZ : Z.Warmed39 s.vm) {O f d : String} (hown : s.vm.findClass own = some m.cls) (w : (Cond.fieldLink own index O f d).before a0 Z = true) (eT : T.heap = h) {v : Value} (F : Sta Z h O f d v) (hd : decode c.code pc = .ok (.getstatic index, 3)) (hn : pc + 3 = n)
    (k : ∀ T', Stand p l e R s m args below meth c T' locs cells slots → T'.heap = h → Go p e below Nd Q T' (mkF m n Ls (v :: st))) : Go p e below Nd Q T (mkF m pc Ls st) := by
  subst hn
  obtain ⟨T1, X1, e1, st1⟩ := getS X hx hZ (host := "") hown w Via.refl eT F (g := mkF m pc Ls st) rfl hd
  exact Go.stp st1 (k T1 X1 e1)
theorem g_putF (X : Stand p l e R s m args below meth c T locs cells slots) (hx : p.tables.exec = Jvm.exec) (hZ : Z.Warmed39 s.vm) {O f d K : String} {kk : Nat} {ty : FieldType} (hown : s.vm.findClass own = some m.cls) (w : (Cond.fieldLink own index O f d).before a0 Z = true) (eT : T.heap = h) {a : Nat} {v old : Value} (F : Fld Z h a O f d old) (E : Exa Z h a K)
    (L : (Cond.lays K O f d).before a0 Z = true ∨ ((Cond.laysFinal K O f d).before a0 Z = true ∧ own = O ∧ meth.name = "<init>")) (wi : (Cond.instantiable K kk).before a0 Z = true) (hty : parseFieldDescriptor d = some ty) (hnw : narrow ty v = v) (hf : fits ty v = true) (hd : decode c.code pc = .ok (.putfield index, 3)) (hn : pc + 3 = n)
    (k : ∀ T' h', Stand p l e R s m args below meth c T' (locs ++ [⟨a, Jvm.RoadKit.slotOf Z O f d⟩]) cells slots → T'.heap = h' → Wr h h' a (Jvm.RoadKit.slotOf Z O f d) v → Go p e below Nd Q T' (mkF m n Ls st)) : Go p e below Nd Q T (mkF m pc Ls (v :: .ref a :: st)) := by
  subst hn
  obtain ⟨T1, h1, X1, e1, W1, st1⟩ := putF X hx hZ hown (host := "") (Or.inl w) Via.refl eT F E L wi hty hnw hf (g := mkF m pc Ls (v :: .ref a :: st)) rfl rfl hd
  exact Go.stp st1 (k T1 h1 X1 e1 W1)
theorem g_new (X : Stand p l e R s m args below meth c T locs cells slots) (hx : p.tables.exec = Jvm.exec) (hZ : Z.Warmed39 s.vm) {K : String} {nn : Nat} (hown : s.vm.findClass own = some m.cls) (w : (Cond.classLink own index K).before a0 Z = true) (wi : (Cond.instantiable K nn).before a0 Z = true) (wz : (Cond.initialized K).before a0 Z = true) (eT : T.heap = h) (hd : decode c.code pc = .ok (.new index, 3)) (hn : pc + 3 = n) (hc : cells + 1 ≤ R.cells) (hl : slots + nn ≤ R.slots)
    (k : ∀ T' h' a, Stand p l e R s m args below meth c T' locs (cells + 1) (slots + nn) → T'.heap = h' → a = h.size → Ext h h' → Exa Z h' a K → (∀ {O f d : String} {ty : FieldType}, Laid Z a0 K O f d → parseFieldDescriptor d = some ty → Fld Z h' a O f d (defaultValue ty)) → Go p e below Nd Q T' (mkF m n Ls (.ref a :: st))) : Go p e below Nd Q T (mkF m pc Ls st) := by
  subst hn
  obtain ⟨T1, h1, X1, e1, E1, A1, D1, -, st1⟩ := newO X hx hZ hown w wi wz eT (g := mkF m pc Ls st) rfl hd hc hl
  exact Go.stp st1 (k T1 h1 h.size X1 e1 rfl E1 A1 D1)
theorem g_cast (X : Stand p l e R s m args below meth c T locs cells slots) (hx : p.tables.exec = Jvm.exec) (hZ : Z.Warmed39 s.vm) {K : String} (hown : s.vm.findClass own = some m.cls) (w : (Cond.classLink own index K).before a0 Z = true) (eT : T.heap = h) {a : Nat} (F : Ins Z h a K true) (hd : decode c.code pc = .ok (.checkcast index, 3)) (hn : pc + 3 = n)
    (k : ∀ T', Stand p l e R s m args below meth c T' locs cells slots → T'.heap = h → Go p e below Nd Q T' (mkF m n Ls (.ref a :: st))) : Go p e below Nd Q T (mkF m pc Ls (.ref a :: st)) := by
  subst hn
  obtain ⟨T1, X1, e1, st1⟩ := castY X hx hZ hown w eT F (g := mkF m pc Ls (.ref a :: st)) rfl rfl hd
  exact Go.stp st1 (k T1 X1 e1)
theorem g_inst (X : Stand p l e R s m args below meth c T locs cells slots) (hx : p.tables.exec = Jvm.exec) (hZ : Z.Warmed39 s.vm) {K : String} (hown : s.vm.findClass own = some m.cls) (w : (Cond.classLink own index K).before a0 Z = true) (eT : T.heap = h) {a : Nat} (F : Ins Z h a K true) (hd : decode c.code pc = .ok (.instanceof index, 3)) (hn : pc + 3 = n)
    (k : ∀ T', Stand p l e R s m args below meth c T' locs cells slots → T'.heap = h → Go p e below Nd Q T' (mkF m n Ls (.int 1 :: st))) : Go p e below Nd Q T (mkF m pc Ls (.ref a :: st)) := by
  subst hn
  obtain ⟨T1, X1, e1, st1⟩ := instY X hx hZ hown w eT F (g := mkF m pc Ls (.ref a :: st)) rfl rfl hd
  exact Go.stp st1 (k T1 X1 e1)
/-! calls by contract -/
variable {y z : MethodName} {bytes : ByteArray} {maxL : Nat} {ret : Option FieldType} {rm : Room} {Qc : Option Value → Heap → List Loc → Prop} {ps : List FieldType} {rt : Option FieldType}
/-- a callee's contract over the heap h, with these arguments -/
abbrev OMet (l : Launch) (Z : State) (y : MethodName) (bytes : ByteArray) (maxL : Nat) (ret : Option FieldType) (ws : List Cond) (rm : Room) (as' : Array Value) (h : Heap) (Qc : Option Value → Heap → List Loc → Prop) : Prop :=
  MetFree l y (head1 (Cond.code y bytes maxL ret :: ws) rm) (fun a U => a = as' ∧ Z.Warmed39 U.vm ∧ U.heap = h) (fun _ _ _ _ _ => True) (fun _ U o U' => ∃ v L, o = .returned v ∧ Qc v U'.heap L ∧ FrameEnd U o U' L rm.cells rm.slots)
theorem own_body {ws : List Cond} {as' : Array Value} (hpn : plainFor y = true) (hef : ∀ m, entryFrame m as' maxL = mkF m 0 Ls [])
    (H : ∀ (p : Program) (e : Env) (s : State) (m : MethodId) (below : List Frame) (meth : Method) (c : Code) (s₁ : State), Stand p l e rm s m as' below meth c s₁ [] 0 0 → p.tables.exec = Jvm.exec → c.code = bytes → c.maxLocals = maxL → s.vm.findClass y.cls = some m.cls → meth.name = y.name → meth.sig.returnType = ret → meth.locks = false → Z.Warmed39 s.vm → s₁.heap = h → Go p e below (Fe s rm.cells rm.slots) Qc s₁ (mkF m 0 Ls [])) :
    OMet l Z y bytes maxL ret ws rm as' h Qc := by
  refine MetFree.of_bodySF hpn hisR ?_
  intro p e s m args below meth c s₁ Bd hml0 hP hK
  obtain ⟨rfl, hZ, hh⟩ := hP
  obtain ⟨s₂, o, h1, h2, h3, h4⟩ := H p e s m below meth c s₁ (Stand.of_body Bd) Bd.exec Bd.bytes hml0 (findClass_of_methodNamed Bd.named) (name_of_methodNamed Bd.named Bd.method).1 Bd.returns (BodyLoose.notSynchronized Bd) hZ (by rw [← hh, Bd.state]; rfl)
  exact ⟨s₂, o, castTop (hef m) h1, h2, h3, h4⟩
theorem g_callS (X : Stand p l e R s m args below meth c T locs cells slots) (hx : p.tables.exec = Jvm.exec) (hZ : Z.Warmed39 s.vm) (hown : s.vm.findClass own = some m.cls) (eT : T.heap = h) (w1 : (Cond.methodLink own index y).before a0 Z = true) (w2 : (Cond.static y).before a0 Z = true) (w3 : (Cond.initialized y.cls).before a0 Z = true) (w4 : (Cond.code y bytes maxL ret).before a0 Z = true)
    (hy : y.cls ≠ "java/lang/invoke/MethodHandle" ∧ y.cls ≠ "java/lang/invoke/VarHandle") (as' : List Value) (hM : OMet l Z y bytes maxL ret [] rm as'.toArray h Qc) (hpd : parseMethodDescriptor y.desc = some ⟨ps, rt⟩) (hlen : as'.length = ps.length) (hd : decode c.code pc = .ok (.invokestatic index, 3)) (hn : pc + 3 = n) (hsize : Ls.size = c.maxLocals)
    (hf : rm.frames + 1 ≤ R.frames) (W : Nat) (hW : (st.map fun v => v.category).sum ≤ W) (hl : W + (maxL + 11) + rm.locals ≤ R.locals) (hc : cells + rm.cells ≤ R.cells) (hs : slots + rm.slots ≤ R.slots)
    (k : ∀ T' h' v L, Stand p l e R s m args below meth c T' (locs ++ L) (cells + rm.cells) (slots + rm.slots) → T'.heap = h' → Qc v h' L → Go p e below Nd Q T' (mkF m n Ls (v.toList ++ st))) : Go p e below Nd Q T (mkF m pc Ls (as'.reverse ++ st)) := by
  subst hn
  obtain ⟨v, _, ⟨T1, L1, k1, n1⟩, -, X1, ⟨L, hQ1, l1, y1, z1⟩, st1⟩ := Jvm.LawKit.callS X hx (y := y) hown (mvT hZ w1) (mvT hZ w2) (mvT hZ w3) (mvT hZ w4) hy (backOf (W := W) hM hZ w4 w3 hf hl) (g := mkF m pc Ls (as'.reverse ++ st)) rfl hsize (argsL := as') (rest := st) (lenOf hpd hlen) rfl (by show 2 * 0 + _ ≤ _; omega) hd (fun _ _ => ⟨rfl, eT, hc, hs⟩)
  dsimp only [Pt.U, Pt.locs, Pt.cells, Pt.slots] at X1 l1 y1 z1 st1 hQ1
  subst l1 y1 z1
  exact Go.stp st1 (k T1 _ v L X1 rfl hQ1)
/-- a callee that returns w and changes nothing -/
def Pu (w : Value) (h0 : Heap) (v : Option Value) (h : Heap) (L : List Loc) : Prop := v = some w ∧ L = [] ∧ h = h0
theorem g_callSP (X : Stand p l e R s m args below meth c T locs cells slots) (hx : p.tables.exec = Jvm.exec) (hZ : Z.Warmed39 s.vm) (hown : s.vm.findClass own = some m.cls) (eT : T.heap = h) (w1 : (Cond.methodLink own index y).before a0 Z = true) (w2 : (Cond.static y).before a0 Z = true) (w3 : (Cond.initialized y.cls).before a0 Z = true) (w4 : (Cond.code y bytes maxL ret).before a0 Z = true)
    (hy : y.cls ≠ "java/lang/invoke/MethodHandle" ∧ y.cls ≠ "java/lang/invoke/VarHandle") (as' : List Value) {w : Value} (hM : OMet l Z y bytes maxL ret [] rm as'.toArray h (Pu w h)) (hpd : parseMethodDescriptor y.desc = some ⟨ps, rt⟩) (hlen : as'.length = ps.length) (hd : decode c.code pc = .ok (.invokestatic index, 3)) (hn : pc + 3 = n) (hsize : Ls.size = c.maxLocals)
    (hf : rm.frames + 1 ≤ R.frames) (W : Nat) (hW : (st.map fun v => v.category).sum ≤ W) (hl : W + (maxL + 11) + rm.locals ≤ R.locals) (hc : cells + rm.cells ≤ R.cells) (hs : slots + rm.slots ≤ R.slots)
    (k : ∀ T', Stand p l e R s m args below meth c T' locs (cells + rm.cells) (slots + rm.slots) → T'.heap = h → Go p e below Nd Q T' (mkF m n Ls (w :: st))) : Go p e below Nd Q T (mkF m pc Ls (as'.reverse ++ st)) :=
  g_callS X hx hZ hown eT w1 w2 w3 w4 hy as' hM hpd hlen hd hn hsize hf W hW hl hc hs fun T' h' v L X' e' q => by
    obtain ⟨rfl, rfl, rfl⟩ := q
    rw [List.append_nil] at X'
    exact k T' X' e'
/-- a callee that returns nothing and changes nothing -/
def Pv (h0 : Heap) (v : Option Value) (h : Heap) (L : List Loc) : Prop := v = none ∧ L = [] ∧ h = h0
theorem g_callSV (X : Stand p l e R s m args below meth c T locs cells slots) (hx : p.tables.exec = Jvm.exec) (hZ : Z.Warmed39 s.vm) (hown : s.vm.findClass own = some m.cls) (eT : T.heap = h) (w1 : (Cond.methodLink own index y).before a0 Z = true) (w2 : (Cond.static y).before a0 Z = true) (w3 : (Cond.initialized y.cls).before a0 Z = true) (w4 : (Cond.code y bytes maxL ret).before a0 Z = true)
    (hy : y.cls ≠ "java/lang/invoke/MethodHandle" ∧ y.cls ≠ "java/lang/invoke/VarHandle") (as' : List Value) (hM : OMet l Z y bytes maxL ret [] rm as'.toArray h (Pv h)) (hpd : parseMethodDescriptor y.desc = some ⟨ps, rt⟩) (hlen : as'.length = ps.length) (hd : decode c.code pc = .ok (.invokestatic index, 3)) (hn : pc + 3 = n) (hsize : Ls.size = c.maxLocals)
    (hf : rm.frames + 1 ≤ R.frames) (W : Nat) (hW : (st.map fun v => v.category).sum ≤ W) (hl : W + (maxL + 11) + rm.locals ≤ R.locals) (hc : cells + rm.cells ≤ R.cells) (hs : slots + rm.slots ≤ R.slots)
    (k : ∀ T', Stand p l e R s m args below meth c T' locs (cells + rm.cells) (slots + rm.slots) → T'.heap = h → Go p e below Nd Q T' (mkF m n Ls st)) : Go p e below Nd Q T (mkF m pc Ls (as'.reverse ++ st)) :=
  g_callS X hx hZ hown eT w1 w2 w3 w4 hy as' hM hpd hlen hd hn hsize hf W hW hl hc hs fun T' h' v L X' e' q => by
    obtain ⟨rfl, rfl, rfl⟩ := q
    rw [List.append_nil] at X'
    exact k T' X' e'
theorem g_callI (X : Stand p l e R s m args below meth c T locs cells slots) (hx : p.tables.exec = Jvm.exec) (hZ : Z.Warmed39 s.vm) (hown : s.vm.findClass own = some m.cls) (eT : T.heap = h) (hy1 : y.name = "<init>") (w1 : (Cond.methodLink own index y).before a0 Z = true) (w2 : (Cond.instanceMethod y).before a0 Z = true) (w3 : (Cond.initialized y.cls).before a0 Z = true) (w4 : (Cond.code y bytes maxL none).before a0 Z = true)
    (hy : y.cls ≠ "java/lang/invoke/MethodHandle" ∧ y.cls ≠ "java/lang/invoke/VarHandle") (a : Nat) (as' : List Value) (hM : OMet l Z y bytes maxL none [] rm (.ref a :: as').toArray h Qc) (hpd : parseMethodDescriptor y.desc = some ⟨ps, rt⟩) (hlen : as'.length = ps.length) (hd : decode c.code pc = .ok (.invokespecial index, 3)) (hn : pc + 3 = n) (hsize : Ls.size = c.maxLocals)
    (hf : rm.frames + 1 ≤ R.frames) (W : Nat) (hW : (st.map fun v => v.category).sum ≤ W) (hl : W + (maxL + 11) + rm.locals ≤ R.locals) (hc : cells + rm.cells ≤ R.cells) (hs : slots + rm.slots ≤ R.slots)
    (k : ∀ T' h' v L, Stand p l e R s m args below meth c T' (locs ++ L) (cells + rm.cells) (slots + rm.slots) → T'.heap = h' → Qc v h' L → Go p e below Nd Q T' (mkF m n Ls (v.toList ++ st))) : Go p e below Nd Q T (mkF m pc Ls (as'.reverse ++ .ref a :: st)) := by
  subst hn
  obtain ⟨v, _, ⟨T1, L1, k1, n1⟩, -, X1, ⟨L, hQ1, l1, y1, z1⟩, st1⟩ := X.specialBack hx (y := y) hy1 hown (mvT hZ w1) (mvT hZ w2) (mvT hZ w4) hy (backOf (W := W) hM hZ w4 w3 hf hl) (g := mkF m pc Ls (as'.reverse ++ .ref a :: st)) rfl hsize (Steps.refl _) (a := a) (argsL := as') (rest := st) (lenOf hpd hlen) rfl (by show 2 * 0 + _ ≤ _; omega) hd (fun _ _ => ⟨rfl, eT, hc, hs⟩)
  dsimp only [Pt.U, Pt.locs, Pt.cells, Pt.slots] at X1 l1 y1 z1 st1 hQ1
  subst l1 y1 z1
  exact Go.tr st1 (k T1 _ v L X1 rfl hQ1)
theorem g_callV (X : Stand p l e R s m args below meth c T locs cells slots) (hx : p.tables.exec = Jvm.exec) (hZ : Z.Warmed39 s.vm) (hown : s.vm.findClass own = some m.cls) (eT : T.heap = h) {K : String} (w1 : (Cond.methodLink own index y).before a0 Z = true) (w2 : (Cond.declares y).before a0 Z = true) (hnf : NotFace s y) (w5 : (Cond.selects K y z).before a0 Z = true) (w6 : (Cond.instanceMethod z).before a0 Z = true) (w3 : (Cond.initialized z.cls).before a0 Z = true) (w4 : (Cond.code z bytes maxL ret).before a0 Z = true)
    (hy : y.cls ≠ "java/lang/invoke/MethodHandle" ∧ y.cls ≠ "java/lang/invoke/VarHandle") (a : Nat) (E : Exa Z h a K) (as' : List Value) (hM : OMet l Z z bytes maxL ret [] rm (.ref a :: as').toArray h Qc) (hpd : parseMethodDescriptor y.desc = some ⟨ps, rt⟩) (hlen : as'.length = ps.length) (hd : decode c.code pc = .ok (.invokevirtual index, 3)) (hn : pc + 3 = n) (hsize : Ls.size = c.maxLocals)
    (hf : rm.frames + 1 ≤ R.frames) (W : Nat) (hW : (st.map fun v => v.category).sum ≤ W) (hl : W + (maxL + 11) + rm.locals ≤ R.locals) (hc : cells + rm.cells ≤ R.cells) (hs : slots + rm.slots ≤ R.slots)
    (k : ∀ T' h' v L, Stand p l e R s m args below meth c T' (locs ++ L) (cells + rm.cells) (slots + rm.slots) → T'.heap = h' → Qc v h' L → Go p e below Nd Q T' (mkF m n Ls (v.toList ++ st))) : Go p e below Nd Q T (mkF m pc Ls (as'.reverse ++ .ref a :: st)) := by
  subst hn
  obtain ⟨cq, kq, qa, qb, qc⟩ := isOf hZ eT E
  obtain ⟨v, _, ⟨T1, L1, k1, n1⟩, -, X1, ⟨L, hQ1, l1, y1, z1⟩, st1⟩ := X.virtualBack hx (y := y) (z := z) hown (mvT hZ w1) (mvT hZ w2) hnf (mvT hZ w5) (mvT hZ w6) hy (backOf (W := W) hM hZ w4 w3 hf hl) qa qc (g := mkF m pc Ls (as'.reverse ++ .ref a :: st)) rfl hsize (Steps.refl _) (argsL := as') (rest := st) (lenOf hpd hlen) rfl (by show 2 * 0 + _ ≤ _; omega) hd (fun _ _ => ⟨rfl, eT, hc, hs⟩)
  dsimp only [Pt.U, Pt.locs, Pt.cells, Pt.slots] at X1 l1 y1 z1 st1 hQ1
  subst l1 y1 z1
  exact Go.tr st1 (k T1 _ v L X1 rfl hQ1)
theorem g_callVP (X : Stand p l e R s m args below meth c T locs cells slots) (hx : p.tables.exec = Jvm.exec) (hZ : Z.Warmed39 s.vm) (hown : s.vm.findClass own = some m.cls) (eT : T.heap = h) {K : String} (w1 : (Cond.methodLink own index y).before a0 Z = true) (w2 : (Cond.declares y).before a0 Z = true) (hnf : NotFace s y) (w5 : (Cond.selects K y z).before a0 Z = true) (w6 : (Cond.instanceMethod z).before a0 Z = true) (w3 : (Cond.initialized z.cls).before a0 Z = true) (w4 : (Cond.code z bytes maxL ret).before a0 Z = true)
    (hy : y.cls ≠ "java/lang/invoke/MethodHandle" ∧ y.cls ≠ "java/lang/invoke/VarHandle") (a : Nat) (E : Exa Z h a K) (as' : List Value) {w : Value} (hM : OMet l Z z bytes maxL ret [] rm (.ref a :: as').toArray h (Pu w h)) (hpd : parseMethodDescriptor y.desc = some ⟨ps, rt⟩) (hlen : as'.length = ps.length) (hd : decode c.code pc = .ok (.invokevirtual index, 3)) (hn : pc + 3 = n) (hsize : Ls.size = c.maxLocals)
    (hf : rm.frames + 1 ≤ R.frames) (W : Nat) (hW : (st.map fun v => v.category).sum ≤ W) (hl : W + (maxL + 11) + rm.locals ≤ R.locals) (hc : cells + rm.cells ≤ R.cells) (hs : slots + rm.slots ≤ R.slots)
    (k : ∀ T', Stand p l e R s m args below meth c T' locs (cells + rm.cells) (slots + rm.slots) → T'.heap = h → Go p e below Nd Q T' (mkF m n Ls (w :: st))) : Go p e below Nd Q T (mkF m pc Ls (as'.reverse ++ .ref a :: st)) :=
  g_callV X hx hZ hown eT w1 w2 hnf w5 w6 w3 w4 hy a E as' hM hpd hlen hd hn hsize hf W hW hl hc hs fun T' h' v L X' e' q => by
    obtain ⟨rfl, rfl, rfl⟩ := q
    rw [List.append_nil] at X'
    exact k T' X' e'
theorem own_pad {C' S' : Nat} (X : Stand p l e R s m args below meth c T locs cells slots) (h1 : cells ≤ C') (h2 : slots ≤ S') : Stand p l e R s m args below meth c T locs C' S' :=
  ⟨X.admits, X.cas, X.clock, X.frames, X.room, X.hears, X.method, X.code, X.here, X.tail, X.warmed, X.limits, X.bytes, X.same.mono h1 h2⟩
/-- a private method, called by invokevirtual; wu: any method of the same class that its objects select (so the class is no interface) -/
theorem g_callP (X : Stand p l e R s m args below meth c T locs cells slots) (hx : p.tables.exec = Jvm.exec) (hZ : Z.Warmed39 s.vm) (hown : s.vm.findClass own = some m.cls) (eT : T.heap = h) {u : MethodName} (hu : u.cls = y.cls) (w1 : (Cond.methodLink own index y).before a0 Z = true) (w2 : (Cond.instanceMethod y).before a0 Z = true) (wp : (Cond.privateMethod y).before a0 Z = true) (wu : (Cond.selects u.cls u u).before a0 Z = true) (w3 : (Cond.initialized y.cls).before a0 Z = true) (w4 : (Cond.code y bytes maxL ret).before a0 Z = true)
    (hy : y.cls ≠ "java/lang/invoke/MethodHandle" ∧ y.cls ≠ "java/lang/invoke/VarHandle") (a : Nat) {K : String} (E : Exa Z h a K) (as' : List Value) (hM : OMet l Z y bytes maxL ret [] rm (.ref a :: as').toArray h Qc) (hpd : parseMethodDescriptor y.desc = some ⟨ps, rt⟩) (hlen : as'.length = ps.length) (hd : decode c.code pc = .ok (.invokevirtual index, 3)) (hn : pc + 3 = n) (hsize : Ls.size = c.maxLocals)
    (hf : rm.frames + 1 ≤ R.frames) (W : Nat) (hW : (st.map fun v => v.category).sum ≤ W) (hl : W + (maxL + 11) + rm.locals ≤ R.locals) (hc : cells + rm.cells ≤ R.cells) (hs : slots + rm.slots ≤ R.slots)
    (k : ∀ T' h' v L, Stand p l e R s m args below meth c T' (locs ++ L) (cells + rm.cells) (slots + rm.slots) → T'.heap = h' → Qc v h' L → Go p e below Nd Q T' (mkF m n Ls (v.toList ++ st))) : Go p e below Nd Q T (mkF m pc Ls (as'.reverse ++ .ref a :: st)) := by
  subst hn
  have hpr : s.PrivateAt y := Cond.privateMethod_at (mvP hZ wp (args := args))
  have hin : (Cond.instanceMethod y).before args s = true := mvT hZ w2
  have hus : (Cond.selects u.cls u u).before args s = true := mvT hZ wu
  obtain ⟨cu, ru, mu, u1, -, u3, -, ku, u5, u6⟩ := Cond.selects_spec hus
  have hcu : s.vm.findClass y.cls = some mu.cls := by rw [← hu]; exact findClass_of_methodNamed u3
  have hsel : (Cond.selects y.cls y y).before args s = true := selects_self_of_private hcu u5 u6 hpr hin hy
  obtain ⟨cell, hcell, hob⟩ := E.cell
  obtain ⟨v, _, ⟨T1, L1, k1, n1⟩, -, X1, ⟨L, hQ1, l1, y1, z1⟩, st1⟩ := X.privateBack hx (y := y) hown (mvT hZ w1) hin hsel hpr (mvT hZ w4) hy (backOf (W := W) hM hZ w4 w3 hf hl) (g := mkF m pc Ls (as'.reverse ++ .ref a :: st)) rfl hsize (Steps.refl _) (a := a) (cell := cell) (by rw [eT]; exact hcell) hob (argsL := as') (rest := st) (lenOf hpd hlen) rfl (by show 2 * 0 + _ ≤ _; omega) hd (fun _ _ => ⟨rfl, eT, hc, hs⟩)
  dsimp only [Pt.U, Pt.locs, Pt.cells, Pt.slots] at X1 l1 y1 z1 st1 hQ1
  subst l1 y1 z1
  exact Go.tr st1 (k T1 _ v L X1 rfl hQ1)
/-! arrays: n places, place j holds f j -/
def Av (Z : State) (h : Heap) (a : Nat) (ty : FieldType) (n : Nat) (f : Nat → Value) : Prop := ∃ cl : Cell, Arr Z h a cl ty ∧ cl.slots.size = n ∧ n < 2 ^ 31 ∧ ∀ j, j < n → cl.slots[j]? = some (f j)
variable {h' : Heap} {a b : Nat} {ty : FieldType} {sz : Nat} {f : Nat → Value} {sl : Nat} {v : Value} {ws' : List Nat}
theorem own_elt {K : String} (F : Exa Z h a K) : a < h.size := F.lt
theorem Av.lt (F : Av Z h a ty sz f) : a < h.size := by obtain ⟨c, A, -⟩ := F; exact A.lt
theorem Av.ext (F : Av Z h a ty sz f) (E : Ext h h') : Av Z h' a ty sz f := by obtain ⟨c, A, r⟩ := F; exact ⟨c, A.ext E, r⟩
theorem Av.other (F : Av Z h b ty sz f) (W : Wr h h' a sl v) (q : b ≠ a) : Av Z h' b ty sz f := by obtain ⟨c, A, r⟩ := F; exact ⟨c, A.other W q, r⟩
theorem Av.keep (F : Av Z h a ty sz f) (K : Keep h h' ws') (q : a ∉ ws') : Av Z h' a ty sz f := by obtain ⟨c, A, r⟩ := F; exact ⟨c, ⟨K.2.1 a c A.1 q, A.2⟩, r⟩
theorem Av.bnd (F : Av Z h a ty sz f) : sz < 2 ^ 31 := by obtain ⟨_, _, _, b, _⟩ := F; exact b
theorem Av.congr {f' : Nat → Value} (F : Av Z h a ty sz f) (q : ∀ j, j < sz → f j = f' j) : Av Z h a ty sz f' := by
  obtain ⟨c, A, S, b, H⟩ := F; exact ⟨c, A, S, b, fun j hj => by rw [H j hj, q j hj]⟩
theorem own_in {c : Cell} {k n : Nat} {j : Int32} (hj : j = Int32.ofNat k) (hs : c.slots.size = n) (hk : k < n) (hn : n < 2 ^ 31) : ¬ (j < 0 ∨ c.slots.size ≤ j.toNatClampNeg) ∧ j.toNatClampNeg = k := by
  subst hj hs
  refine ⟨idx_in hk hn, ?_⟩
  have := len_toInt (n := k) (Nat.lt_trans hk hn)
  show (Nat.toInt32 k).toNatClampNeg = k
  simp only [Int32.toNatClampNeg, this]; rfl
theorem own_inc (i : Nat) : Int32.ofNat i + Int32.ofInt 1 = Int32.ofNat (i + 1) := (Int32.ofNat_add i 1).symm
theorem own_le {i n : Nat} (hi : i < 2 ^ 31) (hn : n < 2 ^ 31) : Int32.ofNat n ≤ Int32.ofNat i ↔ n ≤ i := by
  rw [Int32.le_iff_toInt_le, Int32.toInt_ofNat_small hi, Int32.toInt_ofNat_small hn]; omega
theorem own_idx {i : Int32} {j n : Nat} (hj : i = Int32.ofNat j) (h1 : j < n) (h2 : n < 2 ^ 31) : ¬ i < 0 ∧ i < Int32.ofNat n := by
  subst hj
  rw [Int32.lt_iff_toInt_lt, Int32.lt_iff_toInt_lt, Int32.toInt_ofNat_small (by omega), Int32.toInt_ofNat_small h2]
  constructor
  · show ¬ (j : Int) < 0; omega
  · omega
theorem Av.set (F : Av Z h a ty sz f) {k : Nat} (W : Wr h h' a k v) (hk : k < sz) : Av Z h' a ty sz (fun i => if i = k then v else f i) := by
  obtain ⟨c, A, S, b, H⟩ := F
  refine ⟨_, A.same W, by rw [sz_set]; exact S, b, fun j hj => ?_⟩
  simp only [Cell.setSlot]
  by_cases q : j = k
  · subst q; simp [S, hj]
  · rw [Array.getElem?_setIfInBounds_ne (Ne.symm q), H j hj, if_neg q]
theorem Av.new {cA : ClassId} {N : Int32} (A : Arr Z h a (newA cA ty N) ty) (hN : N = Int32.ofNat sz) (hb : sz < 2 ^ 31) : Av Z h a ty sz (fun _ => defaultValue ty) := by
  have e : N.toNatClampNeg = sz := by
    subst hN; have := len_toInt (n := sz) hb; show (Nat.toInt32 sz).toNatClampNeg = sz; simp only [Int32.toNatClampNeg, this]; rfl
  exact ⟨_, A, by rw [sz_new, e], hb, fun j hj => by simp [newA, e, hj]⟩
theorem g_len (X : Stand p l e R s m args below meth c T locs cells slots) (hx : p.tables.exec = Jvm.exec) (hZ : Z.Warmed39 s.vm) (eT : T.heap = h) (F : Av Z h a ty sz f) (hd : decode c.code pc = .ok (.arraylength, 1)) (hn : pc + 1 = n) (k : Go p e below Nd Q T (mkF m n Ls (.int (Int32.ofNat sz) :: st))) : Go p e below Nd Q T (mkF m pc Ls (.ref a :: st)) := by
  subst hn
  obtain ⟨cl, A, S, b, H⟩ := F
  refine Go.stp (fun t q => X.arraylength hx (cell := cl) (by rw [eT]; exact A.1) (State.isArrayOf_alike hZ.alike A.2.1) (g := mkF m pc Ls (.ref a :: st)) rfl rfl hd t q) ?_
  rw [S]; exact k
theorem g_iaload (X : Stand p l e R s m args below meth c T locs cells slots) (hx : p.tables.exec = Jvm.exec) (hZ : Z.Warmed39 s.vm) (eT : T.heap = h) (F : Av Z h a .int sz f) (i : Nat) {j : Int32} (hj : j = Int32.ofNat i) (hi : i < sz) (v : Value) (hv : f i = v) (hd : decode c.code pc = .ok (.iaload, 1)) (hn : pc + 1 = n) (k : Go p e below Nd Q T (mkF m n Ls (v :: st))) : Go p e below Nd Q T (mkF m pc Ls (.int j :: .ref a :: st)) := by
  subst hn hv
  obtain ⟨cl, A, S, b, H⟩ := F
  obtain ⟨q1, q2⟩ := own_in hj S hi b
  exact Go.stp (fun t q => X.iaload hx (j := j) (v := f i) (by rw [eT]; exact A.1) (State.isArrayOf_alike hZ.alike A.2.1) A.2.2 q1 (by rw [q2]; exact H i hi) (g := mkF m pc Ls (.int j :: .ref a :: st)) rfl rfl hd t q) k
theorem g_caload (X : Stand p l e R s m args below meth c T locs cells slots) (hx : p.tables.exec = Jvm.exec) (hZ : Z.Warmed39 s.vm) (eT : T.heap = h) (F : Av Z h a .char sz f) (i : Nat) {j : Int32} (hj : j = Int32.ofNat i) (hi : i < sz) (v : Value) (hv : f i = v) (hd : decode c.code pc = .ok (.caload, 1)) (hn : pc + 1 = n) (k : Go p e below Nd Q T (mkF m n Ls (v :: st))) : Go p e below Nd Q T (mkF m pc Ls (.int j :: .ref a :: st)) := by
  subst hn hv
  obtain ⟨cl, A, S, b, H⟩ := F
  obtain ⟨q1, q2⟩ := own_in hj S hi b
  exact Go.stp (fun t q => X.caload hx (j := j) (v := f i) (by rw [eT]; exact A.1) (State.isArrayOf_alike hZ.alike A.2.1) A.2.2 q1 (by rw [q2]; exact H i hi) (g := mkF m pc Ls (.int j :: .ref a :: st)) rfl rfl hd t q) k
theorem g_baload (X : Stand p l e R s m args below meth c T locs cells slots) (hx : p.tables.exec = Jvm.exec) (hZ : Z.Warmed39 s.vm) (eT : T.heap = h) (F : Av Z h a .byte sz f) (i : Nat) {j : Int32} (hj : j = Int32.ofNat i) (hi : i < sz) (v : Value) (hv : f i = v) (hd : decode c.code pc = .ok (.baload, 1)) (hn : pc + 1 = n) (k : Go p e below Nd Q T (mkF m n Ls (v :: st))) : Go p e below Nd Q T (mkF m pc Ls (.int j :: .ref a :: st)) := by
  subst hn hv
  obtain ⟨cl, A, S, b, H⟩ := F
  obtain ⟨q1, q2⟩ := own_in hj S hi b
  exact Go.stp (fun t q => X.baloadBytes hx (j := j) (v := f i) (by rw [eT]; exact A.1) (State.isArrayOf_alike hZ.alike A.2.1) A.2.2 q1 (by rw [q2]; exact H i hi) (g := mkF m pc Ls (.int j :: .ref a :: st)) rfl rfl hd t q) k
theorem g_aaload (X : Stand p l e R s m args below meth c T locs cells slots) (hx : p.tables.exec = Jvm.exec) (hZ : Z.Warmed39 s.vm) (eT : T.heap = h) (F : Av Z h a ty sz f) (hty : ty.isReference = true) (i : Nat) {j : Int32} (hj : j = Int32.ofNat i) (hi : i < sz) (v : Value) (hv : f i = v) (hd : decode c.code pc = .ok (.aaload, 1)) (hn : pc + 1 = n) (k : Go p e below Nd Q T (mkF m n Ls (v :: st))) : Go p e below Nd Q T (mkF m pc Ls (.int j :: .ref a :: st)) := by
  subst hn hv
  obtain ⟨cl, A, S, b, H⟩ := F
  obtain ⟨q1, q2⟩ := own_in hj S hi b
  exact Go.stp (fun t q => X.aaload hx (j := j) (v := f i) (by rw [eT]; exact A.1) (State.isArrayOf_alike hZ.alike A.2.1) hty A.2.2 q1 (by rw [q2]; exact H i hi) (g := mkF m pc Ls (.int j :: .ref a :: st)) rfl rfl hd t q) k
theorem g_iastore (X : Stand p l e R s m args below meth c T locs cells slots) (hx : p.tables.exec = Jvm.exec) (hZ : Z.Warmed39 s.vm) (eT : T.heap = h) (F : Av Z h a .int sz f) (i : Nat) {j x : Int32} (hj : j = Int32.ofNat i) (hi : i < sz) (hd : decode c.code pc = .ok (.iastore, 1)) (hn : pc + 1 = n)
    (k : ∀ T' h', Stand p l e R s m args below meth c T' (locs ++ [⟨a, i⟩]) cells slots → T'.heap = h' → Wr h h' a i (.int x) → Av Z h' a .int sz (fun w => if w = i then (.int x) else f w) → Go p e below Nd Q T' (mkF m n Ls st)) : Go p e below Nd Q T (mkF m pc Ls (.int x :: .int j :: .ref a :: st)) := by
  subst hn
  have F0 := F
  obtain ⟨cl, A, S, b, H⟩ := F
  obtain ⟨q1, q2⟩ := own_in hj S hi b
  obtain ⟨T1, h1, X1, e1, W1, st1⟩ := stI X hx hZ eT A (j := j) q1 (g := mkF m pc Ls (.int x :: .int j :: .ref a :: st)) rfl rfl hd
  rw [q2] at X1 W1
  exact Go.stp st1 (k T1 h1 X1 e1 W1 (F0.set W1 hi))
theorem g_castore (X : Stand p l e R s m args below meth c T locs cells slots) (hx : p.tables.exec = Jvm.exec) (hZ : Z.Warmed39 s.vm) (eT : T.heap = h) (F : Av Z h a .char sz f) (i : Nat) {j x : Int32} (hj : j = Int32.ofNat i) (hi : i < sz) (hd : decode c.code pc = .ok (.castore, 1)) (hn : pc + 1 = n)
    (k : ∀ T' h', Stand p l e R s m args below meth c T' (locs ++ [⟨a, i⟩]) cells slots → T'.heap = h' → Wr h h' a i (.int (nar .char x)) → Av Z h' a .char sz (fun w => if w = i then (.int (nar .char x)) else f w) → Go p e below Nd Q T' (mkF m n Ls st)) : Go p e below Nd Q T (mkF m pc Ls (.int x :: .int j :: .ref a :: st)) := by
  subst hn
  have F0 := F
  obtain ⟨cl, A, S, b, H⟩ := F
  obtain ⟨q1, q2⟩ := own_in hj S hi b
  obtain ⟨T1, h1, X1, e1, W1, st1⟩ := stC X hx hZ eT A (j := j) q1 (g := mkF m pc Ls (.int x :: .int j :: .ref a :: st)) rfl rfl hd
  rw [q2] at X1 W1
  exact Go.stp st1 (k T1 h1 X1 e1 W1 (F0.set W1 hi))
theorem g_bastore (X : Stand p l e R s m args below meth c T locs cells slots) (hx : p.tables.exec = Jvm.exec) (hZ : Z.Warmed39 s.vm) (eT : T.heap = h) (F : Av Z h a .byte sz f) (i : Nat) {j x : Int32} (hj : j = Int32.ofNat i) (hi : i < sz) (hd : decode c.code pc = .ok (.bastore, 1)) (hn : pc + 1 = n)
    (k : ∀ T' h', Stand p l e R s m args below meth c T' (locs ++ [⟨a, i⟩]) cells slots → T'.heap = h' → Wr h h' a i (.int (nar .byte x)) → Av Z h' a .byte sz (fun w => if w = i then (.int (nar .byte x)) else f w) → Go p e below Nd Q T' (mkF m n Ls st)) : Go p e below Nd Q T (mkF m pc Ls (.int x :: .int j :: .ref a :: st)) := by
  subst hn
  have F0 := F
  obtain ⟨cl, A, S, b, H⟩ := F
  obtain ⟨q1, q2⟩ := own_in hj S hi b
  obtain ⟨T1, h1, X1, e1, W1, st1⟩ := stB X hx hZ eT A (j := j) q1 (g := mkF m pc Ls (.int x :: .int j :: .ref a :: st)) rfl rfl hd
  rw [q2] at X1 W1
  exact Go.stp st1 (k T1 h1 X1 e1 W1 (F0.set W1 hi))
theorem g_aastore (X : Stand p l e R s m args below meth c T locs cells slots) (hx : p.tables.exec = Jvm.exec) (hZ : Z.Warmed39 s.vm) (eT : T.heap = h) (F : Av Z h a ty sz f) (hty : ty.isReference = true) (i : Nat) {j : Int32} (hj : j = Int32.ofNat i) (hi : i < sz) (hS : Sto Z h a v) (hd : decode c.code pc = .ok (.aastore, 1)) (hn : pc + 1 = n)
    (k : ∀ T' h', Stand p l e R s m args below meth c T' (locs ++ [⟨a, i⟩]) cells slots → T'.heap = h' → Wr h h' a i v → Av Z h' a ty sz (fun w => if w = i then v else f w) → Go p e below Nd Q T' (mkF m n Ls st)) : Go p e below Nd Q T (mkF m pc Ls (v :: .int j :: .ref a :: st)) := by
  subst hn
  have F0 := F
  obtain ⟨cl, A, S, b, H⟩ := F
  obtain ⟨q1, q2⟩ := own_in hj S hi b
  obtain ⟨T1, h1, X1, e1, W1, st1⟩ := stR X hx hZ eT A (j := j) q1 hty hS (g := mkF m pc Ls (v :: .int j :: .ref a :: st)) rfl rfl hd
  rw [q2] at X1 W1
  exact Go.stp st1 (k T1 h1 X1 e1 W1 (F0.set W1 hi))
theorem g_newarray (X : Stand p l e R s m args below meth c T locs cells slots) (hx : p.tables.exec = Jvm.exec) (hZ : Z.Warmed39 s.vm) {aty : ArrayType} (ty : FieldType) (hty : newarray.typeOf aty = ty) (w : (Cond.arrayClass ty).before a0 Z = true) (eT : T.heap = h) {N : Int32} (sz : Nat) (hN : N = Int32.ofNat sz) (cap : Nat) (hcap : sz ≤ cap) (hb : cap * 8 ≤ 536870912) (hc : cells + 1 ≤ R.cells) (hl : slots + cap ≤ R.slots) (hd : decode c.code pc = .ok (.newarray aty, 2)) (hn : pc + 2 = n)
    (k : ∀ T' h' a, Stand p l e R s m args below meth c T' locs (cells + 1) (slots + cap) → T'.heap = h' → a = h.size → Ext h h' → Av Z h' a ty sz (fun _ => defaultValue ty) → Go p e below Nd Q T' (mkF m n Ls (.ref a :: st))) : Go p e below Nd Q T (mkF m pc Ls (.int N :: st)) := by
  subst hn hty
  have hb' : sz < 2 ^ 31 := by omega
  have e0 := len_toInt (n := sz) hb'
  have e : N.toNatClampNeg = sz := by subst hN; show (Nat.toInt32 sz).toNatClampNeg = sz; simp only [Int32.toNatClampNeg, e0]; rfl
  have hneg : ¬ N < 0 := by subst hN; rw [Int32.lt_iff_toInt_lt]; show ¬ (Nat.toInt32 sz).toInt < 0; rw [e0]; omega
  obtain ⟨T1, h1, cA, X1, e1, E1, A1, st1⟩ := newP X hx hZ w eT (g := mkF m pc Ls (.int N :: st)) rfl hd rfl hneg (cap := cap) (by rw [e]; exact hcap) hb hc hl
  exact Go.stp st1 (k T1 h1 h.size X1 e1 rfl E1 (Av.new A1 hN hb'))
theorem g_anewarray (X : Stand p l e R s m args below meth c T locs cells slots) (hx : p.tables.exec = Jvm.exec) (hZ : Z.Warmed39 s.vm) {K : String} (hown : s.vm.findClass own = some m.cls) (w1 : (Cond.classLink own index K).before a0 Z = true) (w2 : (Cond.arrayOver (.object K)).before a0 Z = true) (eT : T.heap = h) {N : Int32} (sz : Nat) (hN : N = Int32.ofNat sz) (cap : Nat) (hcap : sz ≤ cap) (hb : cap * 8 ≤ 536870912) (hc : cells + 1 ≤ R.cells) (hl : slots + cap ≤ R.slots) (hd : decode c.code pc = .ok (.anewarray index, 3)) (hn : pc + 3 = n)
    (k : ∀ T' h' a, Stand p l e R s m args below meth c T' locs (cells + 1) (slots + cap) → T'.heap = h' → a = h.size → Ext h h' → Av Z h' a (.object K) sz (fun _ => .null) → (∃ cl : Cell, h'[a]? = some cl ∧ Ovr Z cl.cls K) → Go p e below Nd Q T' (mkF m n Ls (.ref a :: st))) : Go p e below Nd Q T (mkF m pc Ls (.int N :: st)) := by
  subst hn
  have hb' : sz < 2 ^ 31 := by omega
  have e0 := len_toInt (n := sz) hb'
  have e : N.toNatClampNeg = sz := by subst hN; show (Nat.toInt32 sz).toNatClampNeg = sz; simp only [Int32.toNatClampNeg, e0]; rfl
  have hneg : ¬ N < 0 := by subst hN; rw [Int32.lt_iff_toInt_lt]; show ¬ (Nat.toInt32 sz).toInt < 0; rw [e0]; omega
  obtain ⟨T1, h1, cA, X1, e1, E1, A1, O1, st1⟩ := newR X hx hZ hown w1 w2 eT (g := mkF m pc Ls (.int N :: st)) rfl hd rfl hneg (cap := cap) (by rw [e]; exact hcap) hb hc hl
  exact Go.stp st1 (k T1 h1 h.size X1 e1 rfl E1 (Av.new A1 hN hb') ⟨_, A1.1, O1⟩)
theorem own_arv {f : Nat → Value} {sz : Nat} (F : Av Z h a ty sz f) (hf : ∀ j, j < sz → fits ty (f j) = true) : ∃ k, Arv Z h a k ty (Int32.ofNat sz) ((List.range sz).map f) .null := by
  obtain ⟨cl, A, S, b, H⟩ := F
  have e0 := len_toInt (n := sz) b
  have g : ∀ j, j < sz → ((List.range sz).map f).getD j .null = f j := fun j hj => by simp [List.getD_eq_getElem?_getD, hj]
  refine ⟨cl.cls, cl, A, rfl, ?_, ?_, fun j hj => ?_, fun j hj => ?_⟩
  · rw [S]; show sz = (Nat.toInt32 sz).toNatClampNeg; simp only [Int32.toNatClampNeg, e0]; rfl
  · rw [Int32.lt_iff_toInt_lt]; show ¬ (Nat.toInt32 sz).toInt < 0; rw [e0]; omega
  · rw [S] at hj; rw [g j hj]; exact H j hj
  · rw [S] at hj; rw [g j hj]; exact hf j hj
theorem own_stoL : ∀ (us : List Value), (∀ u ∈ us, Sto Z h a u) → StoL Z h a us
  | [], _ => trivial
  | u :: r, q => ⟨q u (by simp), own_stoL r (fun x hx => q x (by simp [hx]))⟩
theorem own_nat {k : Nat} (hk : k < 2 ^ 31) : (Int32.ofNat k).toNatClampNeg = k ∧ ¬ Int32.ofNat k < 0 := by
  have e0 := len_toInt (n := k) hk
  constructor
  · show (Nat.toInt32 k).toNatClampNeg = k; simp only [Int32.toNatClampNeg, e0]; rfl
  · rw [Int32.lt_iff_toInt_lt]; show ¬ (Nat.toInt32 k).toInt < 0; rw [e0]; omega
/-- System.arraycopy within bounds, what is copied fitting -/
theorem g_acopy (X : Stand p l e R s m args below meth c T locs cells slots) (hx : p.tables.exec = Jvm.exec) (hZ : Z.Warmed39 s.vm) (hown : s.vm.findClass own = some m.cls) (w1 : (Cond.methodLink own index ⟨"java/lang/System", "arraycopy", "(Ljava/lang/Object;ILjava/lang/Object;II)V"⟩).before a0 Z = true) (w2 : (Cond.native ⟨"java/lang/System", "arraycopy", "(Ljava/lang/Object;ILjava/lang/Object;II)V"⟩).before a0 Z = true) (w3 : (Cond.static ⟨"java/lang/System", "arraycopy", "(Ljava/lang/Object;ILjava/lang/Object;II)V"⟩).before a0 Z = true) (w4 : (Cond.initialized "java/lang/System").before a0 Z = true) (eT : T.heap = h)
    {f' : Nat → Value} {sz' : Nat} (A : Av Z h a ty sz f) (B : Av Z h b ty sz' f') (hfA : ∀ j, j < sz → fits ty (f j) = true) (hfB : ∀ j, j < sz' → fits ty (f' j) = true) (sp dp nn : Nat) (hty : refKind ty = false ∨ (refKind ty = true ∧ ∀ i, i < nn → Sto Z h b (f (sp + i)))) (h4 : sp + nn ≤ sz) (h5 : dp + nn ≤ sz')
    {vs vd vn : Int32} (hvs : vs = Int32.ofNat sp) (hvd : vd = Int32.ofNat dp) (hvn : vn = Int32.ofNat nn) {n0 : Nat} (N : Fr n0 locs) (ge : n0 ≤ b) (hd : decode c.code pc = .ok (.invokestatic index, 3)) (hn : pc + 3 = n) (hsize : Ls.size = c.maxLocals) (hf : 1 ≤ R.frames) (W : Nat) (hW : (st.map fun v => v.category).sum ≤ W) (hlo : W + (nativeFrameWords "java/lang/System" "arraycopy" 5 + 11) ≤ R.locals)
    (k : ∀ T' h' L, Stand p l e R s m args below meth c T' L cells slots → T'.heap = h' → Fr n0 L → Keep h h' [b] → Av Z h' b ty sz' (fun j => if dp ≤ j ∧ j < dp + nn then f (sp + (j - dp)) else f' j) → Go p e below Nd Q T' (mkF m n Ls st)) : Go p e below Nd Q T (mkF m pc Ls (.int vn :: .int vd :: .ref b :: .int vs :: .ref a :: st)) := by
  subst hn hvs hvd hvn
  have bA := A.bnd
  have bB := B.bnd
  obtain ⟨kA, VA⟩ := own_arv A hfA
  obtain ⟨kB, VB⟩ := own_arv B hfB
  obtain ⟨s1, s2⟩ := own_nat (k := sp) (by omega)
  obtain ⟨d1, d2⟩ := own_nat (k := dp) (by omega)
  obtain ⟨l1, l2⟩ := own_nat (k := nn) (by omega)
  obtain ⟨zA, -⟩ := own_nat (k := sz) bA
  obtain ⟨zB, -⟩ := own_nat (k := sz') bB
  have hus : (List.range nn).map (fun i => f (sp + i)) = (List.range (Int32.ofNat nn).toNatClampNeg).map fun i => ((List.range sz).map f).getD ((Int32.ofNat sp).toNatClampNeg + i) .null := by
    rw [l1, s1]
    apply List.map_congr_left
    intro i hi
    have := List.mem_range.mp hi
    simp [List.getD_eq_getElem?_getD, show sp + i < sz by omega]
  obtain ⟨T1, h1, L1, X1, e1, N1, K1, V1, st1⟩ := cpA X hx hZ hown w1 w2 w3 w4 eT (us := (List.range nn).map (fun i => f (sp + i))) VA VB (by
      rcases hty with q | ⟨q1, q2⟩
      · exact Or.inl ⟨rfl, q⟩
      · refine Or.inr ⟨q1, q1, own_stoL _ (fun u hu => ?_)⟩
        obtain ⟨i, hi, rfl⟩ := List.mem_map.mp hu
        exact q2 i (List.mem_range.mp hi)) s2 d2 l2 (by rw [s1, l1, zA]; exact h4) (by rw [d1, l1, zB]; exact h5) hus (by rw [d1, l1]; simpa using h5) N ge (g := mkF m pc Ls (.int (Int32.ofNat nn) :: .int (Int32.ofNat dp) :: .ref b :: .int (Int32.ofNat sp) :: .ref a :: st)) rfl hsize rfl hd hf (W := W) (by show 2 * 0 + _ ≤ _; omega) hlo
  refine Go.stp st1 (k T1 h1 L1 X1 e1 N1 K1 ?_)
  obtain ⟨cl, A1, -, S1, -, H1, -⟩ := V1
  rw [zB] at S1
  refine ⟨cl, A1, S1, bB, fun j hj => ?_⟩
  rw [H1 j (by rw [S1]; exact hj), d1, l1]
  congr 1
  simp only [List.getD_eq_getElem?_getD]
  by_cases c1 : j < dp
  · rw [if_neg (by omega), List.append_assoc, List.getElem?_append_left (by simp; omega)]
    simp [List.getElem?_take, c1, hj]
  · by_cases c2 : j < dp + nn
    · rw [if_pos ⟨by omega, c2⟩, List.getElem?_append_left (by simp; omega), List.getElem?_append_right (by simp; omega)]
      simp [show min dp sz' = dp by omega, show j - dp < nn by omega]
    · rw [if_neg (by omega), List.getElem?_append_right (by simp; omega)]
      simp [show min dp sz' = dp by omega, List.getElem?_drop, show dp + nn + (j - (dp + nn)) = j by omega, hj]
end OwnKit

section OwnStart
variable {Z : State} {args : Array Value} {t : Term} {a b : Nat} {ty : FieldType} {n : Nat}
theorem own_sta {C f d : String} {K : String} (h : (Cond.exactly (.static C f d) K).value args Z none Z [] = some true) (w1 : (Cond.initialized C).before args Z = true) (w2 : (Cond.laysStatic C f d).before args Z = true) :
    ∃ x, (Term.static C f d).eval args Z none [] Z = some (.ref x) ∧ Sta Z Z.heap C f d (.ref x) ∧ Exa Z Z.heap x K := by
  obtain ⟨x, ev⟩ := exa_v h
  exact ⟨x, ev, Sta.start ev (Or.inr ⟨w1, w2⟩), Exa.start ev h⟩
theorem own_fldE {C f d : String} {K : String} (ht : t.eval args Z none [] Z = some (.ref a)) (h : (Cond.exactly (.field t C f d) K).value args Z none Z [] = some true) :
    ∃ x, (Term.field t C f d).eval args Z none [] Z = some (.ref x) ∧ Fld Z Z.heap a C f d (.ref x) ∧ Exa Z Z.heap x K := by
  obtain ⟨x, ev⟩ := exa_v h
  exact ⟨x, ev, Fld.start (by rw [← fld_at ht]; exact ev), Exa.start ev h⟩
theorem own_fldI {C f d : String} {v : Int32} (ht : t.eval args Z none [] Z = some (.ref a)) (h : (Cond.eq (.field t C f d) (.int v)).value args Z none Z [] = some true) : Fld Z Z.heap a C f d (.int v) :=
  Fld.start (by rw [← fld_at ht]; exact Cond.eq_int (b := .int v) (by simp [Cond.holds, h]) (Term.int_eval v))
theorem own_arr {C f d : String} (ht : t.eval args Z none [] Z = some (.ref a)) (h : (Cond.arrayOf (.field t C f d) ty).value args Z none Z [] = some true) {N : Int32} (hl : (Cond.eq (.length (.field t C f d)) (.int N)).value args Z none Z [] = some true) (hN : N = Int32.ofNat n) (hn : n < 2 ^ 31) :
    ∃ x g, (Term.field t C f d).eval args Z none [] Z = some (.ref x) ∧ Fld Z Z.heap a C f d (.ref x) ∧ Av Z Z.heap x ty n g ∧ ∀ (j : Nat) (J v : Int32), J = Int32.ofNat j → j < n → (Cond.eq (.elem (.field t C f d) (.int J)) (.int v)).value args Z none Z [] = some true → g j = .int v := by
  obtain ⟨x, ev⟩ := arr_v h
  obtain ⟨c, A⟩ := Arr.start ev h
  have el : (Term.length (.field t C f d)).eval args Z none [] Z = some (.int N) := Cond.eq_int (b := .int N) (by simp [Cond.holds, hl]) (Term.int_eval N)
  have hat : Z.arrayAt? x = some c := IntBox.arrayAt_of A.1 A.2.1 A.2.2
  obtain ⟨x', c', e1, e2, e3⟩ := Term.length_spec el
  cases ev.symm.trans e1
  cases hat.symm.trans e2
  have hlt : c.slots.size < 2 ^ 31 := Jvm.Free.SBG.length_lt ev hat el
  have hs : c.slots.size = n := by
    have e4 : c.slots.size.toInt32 = Int32.ofNat n := by rw [← hN]; injection e3 with e5; exact e5.symm
    have e5 := congrArg Int32.toInt e4
    rw [len_toInt hlt, Int32.toInt_ofNat_small hn] at e5
    omega
  refine ⟨x, fun j => (c.slots[j]?).getD .null, ev, Fld.start (by rw [← fld_at ht]; exact ev), ⟨c, A, hs, hn, fun j hj => ?_⟩, fun j J v hJ hj he => ?_⟩
  · rw [← hs] at hj; simp [hj]
  · have ee : (Term.elem (.field t C f d) (.int J)).eval args Z none [] Z = some (.int v) := Cond.eq_int (b := .int v) (by simp [Cond.holds, he]) (Term.int_eval v)
    obtain ⟨-, q⟩ := elem_in ee ev (Term.int_eval J) A.1
    rw [(own_in hJ hs hj hn).2] at q
    show (c.slots[j]?).getD .null = _
    rw [q]; rfl
/-- a String of n bytes, coder 0 -/
def Ostr (Z : State) (h : Heap) (a b : Nat) (n : Nat) (g : Nat → Value) : Prop := Exa Z h a "java/lang/String" ∧ Fld Z h a "java/lang/String" "coder" "B" (.int 0) ∧ Fld Z h a "java/lang/String" "value" "[B" (.ref b) ∧ Av Z h b .byte n g
theorem Ostr.ext {h h' : Heap} {g : Nat → Value} (F : Ostr Z h a b n g) (E : Ext h h') : Ostr Z h' a b n g := ⟨F.1.ext E, F.2.1.ext E, F.2.2.1.ext E, F.2.2.2.ext E⟩
theorem own_char_nar (x : Int32) : narrow .char (.int x.toUInt32.toUInt16.toUInt32.toInt32) = .int x.toUInt32.toUInt16.toUInt32.toInt32 := by
  generalize x.toUInt32.toUInt16 = y
  simp [narrow]
theorem own_shr0 (x : Int32) : x >>> ((0 : Int32) &&& 31) = x := by
  show x >>> (0 : Int32) = x; simp
end OwnStart

theorem pd_0 : parseMethodDescriptor "()B" = some ⟨[], some (.byte)⟩ := by decide +kernel
theorem pd_1 : parseMethodDescriptor "(IILjava/util/function/BiFunction;)I" = some ⟨[.int, .int, .object "java/util/function/BiFunction"], some (.int)⟩ := by decide +kernel
theorem pd_2 : parseMethodDescriptor "(II)V" = some ⟨[.int, .int], none⟩ := by decide +kernel
theorem pd_3 : parseMethodDescriptor "()Z" = some ⟨[], some (.boolean)⟩ := by decide +kernel
theorem pd_4 : parseMethodDescriptor "([BI)C" = some ⟨[.array (.byte), .int], some (.char)⟩ := by decide +kernel
theorem pd_5 : parseMethodDescriptor "()Ljava/lang/String;" = some ⟨[], some (.object "java/lang/String")⟩ := by decide +kernel
theorem pd_6 : parseMethodDescriptor "()I" = some ⟨[], some (.int)⟩ := by decide +kernel
theorem pd_7 : parseMethodDescriptor "(I)C" = some ⟨[.int], some (.char)⟩ := by decide +kernel
theorem own_m3 (x : Int32) : (x &&& (3 : Int32)) = 0 ∨ (x &&& (3 : Int32)) = 1 ∨ (x &&& (3 : Int32)) = 2 ∨ (x &&& (3 : Int32)) = 3 := by
  have e1 : (x &&& 3).toInt = x.toInt % 2 ^ 2 := Jvm.Kit.i32_mask x 3 (k := 2) (by decide) (by decide)
  have h : (x &&& 3).toInt = 0 ∨ (x &&& 3).toInt = 1 ∨ (x &&& 3).toInt = 2 ∨ (x &&& 3).toInt = 3 := by omega
  rcases h with h | h | h | h
  · exact Or.inl (Int32.toInt_inj.mp h)
  · exact Or.inr (Or.inl (Int32.toInt_inj.mp h))
  · exact Or.inr (Or.inr (Or.inl (Int32.toInt_inj.mp h)))
  · exact Or.inr (Or.inr (Or.inr (Int32.toInt_inj.mp h)))
def own_ver (a b c : Nat) : Int32 := if a = b then 1 else if a = c then 1 else 0
theorem own_ver01 (a b c : Nat) : own_ver a b c = 0 ∨ own_ver a b c = 1 := by unfold own_ver; split <;> (try split) <;> simp

theorem d3_0 : decode jdk_42_method_152_code 0 = .ok (.getstatic 38, 3) := by decide +kernel
theorem d3_3 : decode jdk_42_method_152_code 3 = .ok (.ifCond .eq 10, 3) := by decide +kernel
theorem d3_6 : decode jdk_42_method_152_code 6 = .ok (.aload_n 0, 1) := by decide +kernel
theorem d3_7 : decode jdk_42_method_152_code 7 = .ok (.getfield 15, 3) := by decide +kernel
theorem d3_10 : decode jdk_42_method_152_code 10 = .ok (.goto 4, 3) := by decide +kernel
theorem d3_13 : decode jdk_42_method_152_code 13 = .ok (.iconst 1, 1) := by decide +kernel
theorem d3_14 : decode jdk_42_method_152_code 14 = .ok (.ireturn, 1) := by decide +kernel
theorem pn_3 : plainFor (⟨"java/lang/String", "coder", "()B"⟩ : MethodName) = true := by first | (exact plainFor_of_name (by first | (simp [plainName, overriddenIn, x]; done) | decide +kernel)) | decide +kernel
set_option maxRecDepth 65536 in
set_option maxHeartbeats 40000000 in
theorem rm3 (l : Launch) (Z : State) (a0 : Array Value) (hw : ∀ d ∈ tables_1, d.before a0 Z = true) (a1 : Nat) (cs : Int32) (h0 : Heap) (Scs : Sta Z h0 "java/lang/String" "COMPACT_STRINGS" "Z" (.int cs)) (hcs : ¬ cs = 0) (Fc : Fld Z h0 a1 "java/lang/String" "coder" "B" (.int 0)) :
    OMet l Z (⟨"java/lang/String", "coder", "()B"⟩ : MethodName) jdk_42_method_152_code 1 (some (.byte)) [] ({ frames := 0, cells := 0, slots := 0, locals := 0 } : Room) #[.ref a1] h0 (Pu (.int 0) h0) := by
  refine own_body (Ls := #[.val (.ref a1)]) pn_3 (fun m => by first | (simp [entryFrame, mkF, argsToLocals, Value.category, maxLocals]; done) | rfl) ?_
  intro p e s m below meth c s₁ X0 hx hby hml hown hnm hret hlk hZ e0
  refine g_getS (n := 3) X0 hx hZ hown (hw _ (List.mem_of_getElem? (i := 23) rfl)) e0 Scs (hb hby d3_0) rfl ?_
  intro T11 X11 e11
  refine g_if (n := 13) (n' := 6) X11 hx _ (own_zeq _) (hb hby d3_3) (by decide) (by decide) rfl (fun hc => absurd hc hcs) (fun _ => ?_)
  refine g_aloadN (n := 7) X11 hx (hb hby d3_6) rfl rfl rfl ?_
  refine g_getF (n := 10) X11 hx hZ hown (hw _ (List.mem_of_getElem? (i := 24) rfl)) e11 Fc (hb hby d3_7) rfl ?_
  intro T12 X12 e12
  refine g_goto (n := 14) X12 hx (hb hby d3_10) (by decide) (by decide) ?_
  refine g_retN X12 hx (by simp) rfl hret hlk (hb hby d3_14) (Fe.of (by decide) (by decide)) ?_
  try rw [e12]
  exact ⟨rfl, rfl, rfl⟩
theorem d2_0 : decode jdk_42_method_54_code 0 = .ok (.aload_n 0, 1) := by decide +kernel
theorem d2_1 : decode jdk_42_method_54_code 1 = .ok (.getfield 9, 3) := by decide +kernel
theorem d2_4 : decode jdk_42_method_54_code 4 = .ok (.arraylength, 1) := by decide +kernel
theorem d2_5 : decode jdk_42_method_54_code 5 = .ok (.aload_n 0, 1) := by decide +kernel
theorem d2_6 : decode jdk_42_method_54_code 6 = .ok (.invokevirtual 335, 3) := by decide +kernel
theorem d2_9 : decode jdk_42_method_54_code 9 = .ok (.ishr, 1) := by decide +kernel
theorem d2_10 : decode jdk_42_method_54_code 10 = .ok (.ireturn, 1) := by decide +kernel
theorem pn_2 : plainFor (⟨"java/lang/String", "length", "()I"⟩ : MethodName) = true := by first | (exact plainFor_of_name (by first | (simp [plainName, overriddenIn, x]; done) | decide +kernel)) | decide +kernel
set_option maxRecDepth 65536 in
set_option maxHeartbeats 40000000 in
theorem rm2 (l : Launch) (Z : State) (a0 : Array Value) (hw : ∀ d ∈ tables_1, d.before a0 Z = true) (a1 b1 : Nat) (sz : Nat) (g : Nat → Value) (cs : Int32) (h0 : Heap) (Scs : Sta Z h0 "java/lang/String" "COMPACT_STRINGS" "Z" (.int cs)) (hcs : ¬ cs = 0) (S : Ostr Z h0 a1 b1 sz g) :
    OMet l Z (⟨"java/lang/String", "length", "()I"⟩ : MethodName) jdk_42_method_54_code 1 (some (.int)) [] ({ frames := 1, cells := 0, slots := 0, locals := 13 } : Room) #[.ref a1] h0 (Pu (.int (Int32.ofNat sz)) h0) := by
  refine own_body (Ls := #[.val (.ref a1)]) pn_2 (fun m => by first | (simp [entryFrame, mkF, argsToLocals, Value.category, maxLocals]; done) | rfl) ?_
  intro p e s m below meth c s₁ X0 hx hby hml hown hnm hret hlk hZ e0
  refine g_aloadN (n := 1) X0 hx (hb hby d2_0) rfl rfl rfl ?_
  refine g_getF (n := 4) X0 hx hZ hown (hw _ (List.mem_of_getElem? (i := 16) rfl)) e0 S.2.2.1 (hb hby d2_1) rfl ?_
  intro T11 X11 e11
  refine g_len (n := 5) X11 hx hZ e11 S.2.2.2 (hb hby d2_4) rfl ?_
  refine g_aloadN (n := 6) X11 hx (hb hby d2_5) rfl rfl rfl ?_
  refine g_callVP (n := 9) (st := [(.int (Int32.ofNat sz))]) X11 hx hZ hown e11 (hw _ (List.mem_of_getElem? (i := 18) rfl)) (hw _ (List.mem_of_getElem? (i := 19) rfl)) (notFace_of_selects (args := #[]) (mvT hZ (hw _ (List.mem_of_getElem? (i := 21) rfl)))) (hw _ (List.mem_of_getElem? (i := 21) rfl)) (hw _ (List.mem_of_getElem? (i := 20) rfl)) (hw _ (List.mem_of_getElem? (i := 14) rfl)) (hw _ (List.mem_of_getElem? (i := 22) rfl)) (by decide) a1 S.1 [] (rm3 l Z a0 hw a1 cs h0 Scs hcs S.2.1) pd_0 rfl (hb hby d2_6) rfl (by rw [hml]; rfl) (by decide) 1 (Nat.le_of_eq rfl) (by decide) (by decide) (by decide) ?_
  intro T12 X12 e12
  refine g_ishr (n := 10) X12 hx (hb hby d2_9) rfl ?_
  refine g_retI X12 hx hret hlk (hb hby d2_10) (Fe.of (by decide) (by decide)) ?_
  try rw [e12]
  exact ⟨by rw [own_shr0], rfl, rfl⟩
theorem d5_0 : decode jdk_42_method_154_code 0 = .ok (.getstatic 38, 3) := by decide +kernel
theorem d5_3 : decode jdk_42_method_154_code 3 = .ok (.ifCond .eq 14, 3) := by decide +kernel
theorem d5_6 : decode jdk_42_method_154_code 6 = .ok (.aload_n 0, 1) := by decide +kernel
theorem d5_7 : decode jdk_42_method_154_code 7 = .ok (.getfield 15, 3) := by decide +kernel
theorem d5_10 : decode jdk_42_method_154_code 10 = .ok (.ifCond .ne 7, 3) := by decide +kernel
theorem d5_13 : decode jdk_42_method_154_code 13 = .ok (.iconst 1, 1) := by decide +kernel
theorem d5_14 : decode jdk_42_method_154_code 14 = .ok (.goto 4, 3) := by decide +kernel
theorem d5_17 : decode jdk_42_method_154_code 17 = .ok (.iconst 0, 1) := by decide +kernel
theorem d5_18 : decode jdk_42_method_154_code 18 = .ok (.ireturn, 1) := by decide +kernel
theorem pn_5 : plainFor (⟨"java/lang/String", "isLatin1", "()Z"⟩ : MethodName) = true := by first | (exact plainFor_of_name (by first | (simp [plainName, overriddenIn, x]; done) | decide +kernel)) | decide +kernel
set_option maxRecDepth 65536 in
set_option maxHeartbeats 40000000 in
theorem rm5 (l : Launch) (Z : State) (a0 : Array Value) (hw : ∀ d ∈ tables_1, d.before a0 Z = true) (a1 : Nat) (cs : Int32) (h0 : Heap) (Scs : Sta Z h0 "java/lang/String" "COMPACT_STRINGS" "Z" (.int cs)) (hcs : ¬ cs = 0) (Fc : Fld Z h0 a1 "java/lang/String" "coder" "B" (.int 0)) :
    OMet l Z (⟨"java/lang/String", "isLatin1", "()Z"⟩ : MethodName) jdk_42_method_154_code 1 (some (.boolean)) [] ({ frames := 0, cells := 0, slots := 0, locals := 0 } : Room) #[.ref a1] h0 (Pu (.int 1) h0) := by
  refine own_body (Ls := #[.val (.ref a1)]) pn_5 (fun m => by first | (simp [entryFrame, mkF, argsToLocals, Value.category, maxLocals]; done) | rfl) ?_
  intro p e s m below meth c s₁ X0 hx hby hml hown hnm hret hlk hZ e0
  refine g_getS (n := 3) X0 hx hZ hown (hw _ (List.mem_of_getElem? (i := 23) rfl)) e0 Scs (hb hby d5_0) rfl ?_
  intro T11 X11 e11
  refine g_if (n := 17) (n' := 6) X11 hx _ (own_zeq _) (hb hby d5_3) (by decide) (by decide) rfl (fun hc => absurd hc hcs) (fun _ => ?_)
  refine g_aloadN (n := 7) X11 hx (hb hby d5_6) rfl rfl rfl ?_
  refine g_getF (n := 10) X11 hx hZ hown (hw _ (List.mem_of_getElem? (i := 24) rfl)) e11 Fc (hb hby d5_7) rfl ?_
  intro T12 X12 e12
  refine g_if (n := 17) (n' := 13) X12 hx _ (own_zne _) (hb hby d5_10) (by decide) (by decide) rfl (fun hc => absurd hc (by decide)) (fun _ => ?_)
  refine g_iconst (n := 14) X12 hx (1 : Int32) (hb hby d5_13) rfl rfl ?_
  refine g_goto (n := 18) X12 hx (hb hby d5_14) (by decide) (by decide) ?_
  refine g_retZ X12 hx (by decide) hret hlk (hb hby d5_18) (Fe.of (by decide) (by decide)) ?_
  try rw [e12]
  exact ⟨rfl, rfl, rfl⟩
theorem d8_0 : decode jdk_41_method_11_code 0 = .ok (.iload_n 0, 1) := by decide +kernel
theorem d8_1 : decode jdk_41_method_11_code 1 = .ok (.ifCond .lt 8, 3) := by decide +kernel
theorem d8_4 : decode jdk_41_method_11_code 4 = .ok (.iload_n 0, 1) := by decide +kernel
theorem d8_5 : decode jdk_41_method_11_code 5 = .ok (.iload_n 1, 1) := by decide +kernel
theorem d8_6 : decode jdk_41_method_11_code 6 = .ok (.if_icmp .lt 10, 3) := by decide +kernel
theorem d8_9 : decode jdk_41_method_11_code 9 = .ok (.aload_n 2, 1) := by decide +kernel
theorem d8_10 : decode jdk_41_method_11_code 10 = .ok (.iload_n 0, 1) := by decide +kernel
theorem d8_11 : decode jdk_41_method_11_code 11 = .ok (.iload_n 1, 1) := by decide +kernel
theorem d8_12 : decode jdk_41_method_11_code 12 = .ok (.invokestatic 95, 3) := by decide +kernel
theorem d8_15 : decode jdk_41_method_11_code 15 = .ok (.athrow, 1) := by decide +kernel
theorem d8_16 : decode jdk_41_method_11_code 16 = .ok (.iload_n 0, 1) := by decide +kernel
theorem d8_17 : decode jdk_41_method_11_code 17 = .ok (.ireturn, 1) := by decide +kernel
theorem pn_8 : plainFor (⟨"jdk/internal/util/Preconditions", "checkIndex", "(IILjava/util/function/BiFunction;)I"⟩ : MethodName) = true := by first | (exact plainFor_of_name (by first | (simp [plainName, overriddenIn, x]; done) | decide +kernel)) | decide +kernel
set_option maxRecDepth 65536 in
set_option maxHeartbeats 40000000 in
theorem rm8n (l : Launch) (Z : State) (a0 : Array Value) (hw : ∀ d ∈ tables_1, d.before a0 Z = true) (p1 p2 : Int32) (h0 : Heap) (q1 : ¬ p1 < 0) (q2 : p1 < p2) :
    OMet l Z (⟨"jdk/internal/util/Preconditions", "checkIndex", "(IILjava/util/function/BiFunction;)I"⟩ : MethodName) jdk_41_method_11_code 3 (some (.int)) [] ({ frames := 0, cells := 0, slots := 0, locals := 0 } : Room) #[.int p1, .int p2, .null] h0 (Pu (.int p1) h0) := by
  refine own_body (Ls := #[.val (.int p1), .val (.int p2), .val (.null)]) pn_8 (fun m => by first | (simp [entryFrame, mkF, argsToLocals, Value.category, maxLocals]; done) | rfl) ?_
  intro p e s m below meth c s₁ X0 hx hby hml hown hnm hret hlk hZ e0
  refine g_iloadN (n := 1) X0 hx (hb hby d8_0) rfl rfl ?_
  refine g_if (n := 9) (n' := 4) X0 hx _ (own_zlt _) (hb hby d8_1) (by decide) (by decide) rfl (fun hc => absurd hc q1) (fun _ => ?_)
  refine g_iloadN (n := 5) X0 hx (hb hby d8_4) rfl rfl ?_
  refine g_iloadN (n := 6) X0 hx (hb hby d8_5) rfl rfl ?_
  refine g_icmp (n := 16) (n' := 9) X0 hx _ (own_clt _ _) (hb hby d8_6) (by decide) (by decide) rfl (fun _ => ?_) (fun hc => absurd q2 hc)
  refine g_iloadN (n := 17) X0 hx (hb hby d8_16) rfl rfl ?_
  refine g_retI X0 hx hret hlk (hb hby d8_17) (Fe.of (by decide) (by decide)) ?_
  try rw [e0]
  exact ⟨rfl, rfl, rfl⟩
set_option maxRecDepth 65536 in
set_option maxHeartbeats 40000000 in
theorem rm8r (l : Launch) (Z : State) (a0 : Array Value) (hw : ∀ d ∈ tables_1, d.before a0 Z = true) (p1 p2 : Int32) (a3 : Nat) (h0 : Heap) (q1 : ¬ p1 < 0) (q2 : p1 < p2) :
    OMet l Z (⟨"jdk/internal/util/Preconditions", "checkIndex", "(IILjava/util/function/BiFunction;)I"⟩ : MethodName) jdk_41_method_11_code 3 (some (.int)) [] ({ frames := 0, cells := 0, slots := 0, locals := 0 } : Room) #[.int p1, .int p2, .ref a3] h0 (Pu (.int p1) h0) := by
  refine own_body (Ls := #[.val (.int p1), .val (.int p2), .val (.ref a3)]) pn_8 (fun m => by first | (simp [entryFrame, mkF, argsToLocals, Value.category, maxLocals]; done) | rfl) ?_
  intro p e s m below meth c s₁ X0 hx hby hml hown hnm hret hlk hZ e0
  refine g_iloadN (n := 1) X0 hx (hb hby d8_0) rfl rfl ?_
  refine g_if (n := 9) (n' := 4) X0 hx _ (own_zlt _) (hb hby d8_1) (by decide) (by decide) rfl (fun hc => absurd hc q1) (fun _ => ?_)
  refine g_iloadN (n := 5) X0 hx (hb hby d8_4) rfl rfl ?_
  refine g_iloadN (n := 6) X0 hx (hb hby d8_5) rfl rfl ?_
  refine g_icmp (n := 16) (n' := 9) X0 hx _ (own_clt _ _) (hb hby d8_6) (by decide) (by decide) rfl (fun _ => ?_) (fun hc => absurd q2 hc)
  refine g_iloadN (n := 17) X0 hx (hb hby d8_16) rfl rfl ?_
  refine g_retI X0 hx hret hlk (hb hby d8_17) (Fe.of (by decide) (by decide)) ?_
  try rw [e0]
  exact ⟨rfl, rfl, rfl⟩
theorem d7_0 : decode jdk_42_method_155_code 0 = .ok (.iload_n 0, 1) := by decide +kernel
theorem d7_1 : decode jdk_42_method_155_code 1 = .ok (.iload_n 1, 1) := by decide +kernel
theorem d7_2 : decode jdk_42_method_155_code 2 = .ok (.getstatic 1053, 3) := by decide +kernel
theorem d7_5 : decode jdk_42_method_155_code 5 = .ok (.invokestatic 1059, 3) := by decide +kernel
theorem d7_8 : decode jdk_42_method_155_code 8 = .ok (.pop, 1) := by decide +kernel
theorem d7_9 : decode jdk_42_method_155_code 9 = .ok (.return_, 1) := by decide +kernel
theorem pn_7 : plainFor (⟨"java/lang/String", "checkIndex", "(II)V"⟩ : MethodName) = true := by first | (exact plainFor_of_name (by first | (simp [plainName, overriddenIn, x]; done) | decide +kernel)) | decide +kernel
set_option maxRecDepth 65536 in
set_option maxHeartbeats 40000000 in
theorem rm7 (l : Launch) (Z : State) (a0 : Array Value) (hw : ∀ d ∈ tables_1, d.before a0 Z = true) (p1 p2 : Int32) (fm : Value) (h0 : Heap) (Sfm : Sta Z h0 "jdk/internal/util/Preconditions" "SIOOBE_FORMATTER" "Ljava/util/function/BiFunction;" fm) (rfm : fm.isRef = true) (q1 : ¬ p1 < 0) (q2 : p1 < p2) :
    OMet l Z (⟨"java/lang/String", "checkIndex", "(II)V"⟩ : MethodName) jdk_42_method_155_code 2 none [] ({ frames := 1, cells := 0, slots := 0, locals := 14 } : Room) #[.int p1, .int p2] h0 (Pv h0) := by
  refine own_body (Ls := #[.val (.int p1), .val (.int p2)]) pn_7 (fun m => by first | (simp [entryFrame, mkF, argsToLocals, Value.category, maxLocals]; done) | rfl) ?_
  intro p e s m below meth c s₁ X0 hx hby hml hown hnm hret hlk hZ e0
  rcases ref_cases rfm with rfl | ⟨a3, rfl⟩
  · refine g_iloadN (n := 1) X0 hx (hb hby d7_0) rfl rfl ?_
    refine g_iloadN (n := 2) X0 hx (hb hby d7_1) rfl rfl ?_
    refine g_getS (n := 5) X0 hx hZ hown (hw _ (List.mem_of_getElem? (i := 43) rfl)) e0 Sfm (hb hby d7_2) rfl ?_
    intro T11 X11 e11
    refine g_callSP (n := 8) (st := []) X11 hx hZ hown e11 (hw _ (List.mem_of_getElem? (i := 45) rfl)) (hw _ (List.mem_of_getElem? (i := 46) rfl)) (hw _ (List.mem_of_getElem? (i := 44) rfl)) (hw _ (List.mem_of_getElem? (i := 47) rfl)) (by decide) [.int p1, .int p2, .null] (rm8n l Z a0 hw p1 p2 h0 q1 q2) pd_1 rfl (hb hby d7_5) rfl (by rw [hml]; rfl) (by decide) 0 (Nat.le_of_eq rfl) (by decide) (by decide) (by decide) ?_
    intro T12 X12 e12
    refine g_pop (n := 9) X12 hx (hb hby d7_8) rfl rfl ?_
    refine g_retV X12 hx hret hlk (hb hby d7_9) (Fe.of (by decide) (by decide)) ?_
    try rw [e12]
    exact ⟨rfl, rfl, rfl⟩
  · refine g_iloadN (n := 1) X0 hx (hb hby d7_0) rfl rfl ?_
    refine g_iloadN (n := 2) X0 hx (hb hby d7_1) rfl rfl ?_
    refine g_getS (n := 5) X0 hx hZ hown (hw _ (List.mem_of_getElem? (i := 43) rfl)) e0 Sfm (hb hby d7_2) rfl ?_
    intro T13 X13 e13
    refine g_callSP (n := 8) (st := []) X13 hx hZ hown e13 (hw _ (List.mem_of_getElem? (i := 45) rfl)) (hw _ (List.mem_of_getElem? (i := 46) rfl)) (hw _ (List.mem_of_getElem? (i := 44) rfl)) (hw _ (List.mem_of_getElem? (i := 47) rfl)) (by decide) [.int p1, .int p2, .ref a3] (rm8r l Z a0 hw p1 p2 a3 h0 q1 q2) pd_1 rfl (hb hby d7_5) rfl (by rw [hml]; rfl) (by decide) 0 (Nat.le_of_eq rfl) (by decide) (by decide) (by decide) ?_
    intro T14 X14 e14
    refine g_pop (n := 9) X14 hx (hb hby d7_8) rfl rfl ?_
    refine g_retV X14 hx hret hlk (hb hby d7_9) (Fe.of (by decide) (by decide)) ?_
    try rw [e14]
    exact ⟨rfl, rfl, rfl⟩
theorem d6_0 : decode jdk_43_method_2_code 0 = .ok (.iload_n 1, 1) := by decide +kernel
theorem d6_1 : decode jdk_43_method_2_code 1 = .ok (.aload_n 0, 1) := by decide +kernel
theorem d6_2 : decode jdk_43_method_2_code 2 = .ok (.arraylength, 1) := by decide +kernel
theorem d6_3 : decode jdk_43_method_2_code 3 = .ok (.invokestatic 9, 3) := by decide +kernel
theorem d6_6 : decode jdk_43_method_2_code 6 = .ok (.aload_n 0, 1) := by decide +kernel
theorem d6_7 : decode jdk_43_method_2_code 7 = .ok (.iload_n 1, 1) := by decide +kernel
theorem d6_8 : decode jdk_43_method_2_code 8 = .ok (.baload, 1) := by decide +kernel
theorem d6_9 : decode jdk_43_method_2_code 9 = .ok (.sipush 255, 3) := by decide +kernel
theorem d6_12 : decode jdk_43_method_2_code 12 = .ok (.iand, 1) := by decide +kernel
theorem d6_13 : decode jdk_43_method_2_code 13 = .ok (.i2c, 1) := by decide +kernel
theorem d6_14 : decode jdk_43_method_2_code 14 = .ok (.ireturn, 1) := by decide +kernel
theorem pn_6 : plainFor (⟨"java/lang/StringLatin1", "charAt", "([BI)C"⟩ : MethodName) = true := by first | (exact plainFor_of_name (by first | (simp [plainName, overriddenIn, x]; done) | decide +kernel)) | decide +kernel
set_option maxRecDepth 65536 in
set_option maxHeartbeats 40000000 in
theorem rm6 (l : Launch) (Z : State) (a0 : Array Value) (hw : ∀ d ∈ tables_1, d.before a0 Z = true) (b1 : Nat) (p2 : Int32) (sz j : Nat) (g : Nat → Value) (cv : Int32) (fm : Value) (h0 : Heap) (Sfm : Sta Z h0 "jdk/internal/util/Preconditions" "SIOOBE_FORMATTER" "Ljava/util/function/BiFunction;" fm) (rfm : fm.isRef = true) (A : Av Z h0 b1 .byte sz g) (hj : p2 = Int32.ofNat j) (hlt : j < sz) (hv : g j = .int cv) :
    OMet l Z (⟨"java/lang/StringLatin1", "charAt", "([BI)C"⟩ : MethodName) jdk_43_method_2_code 2 (some (.char)) [] ({ frames := 2, cells := 0, slots := 0, locals := 27 } : Room) #[.ref b1, .int p2] h0 (Pu (.int (cv &&& (255 : Int32)).toUInt32.toUInt16.toUInt32.toInt32) h0) := by
  refine own_body (Ls := #[.val (.ref b1), .val (.int p2)]) pn_6 (fun m => by first | (simp [entryFrame, mkF, argsToLocals, Value.category, maxLocals]; done) | rfl) ?_
  intro p e s m below meth c s₁ X0 hx hby hml hown hnm hret hlk hZ e0
  have hid := own_idx hj hlt A.bnd
  refine g_iloadN (n := 1) X0 hx (hb hby d6_0) rfl rfl ?_
  refine g_aloadN (n := 2) X0 hx (hb hby d6_1) rfl rfl rfl ?_
  refine g_len (n := 3) X0 hx hZ e0 A (hb hby d6_2) rfl ?_
  refine g_callSV (n := 6) (st := []) X0 hx hZ hown e0 (hw _ (List.mem_of_getElem? (i := 40) rfl)) (hw _ (List.mem_of_getElem? (i := 41) rfl)) (hw _ (List.mem_of_getElem? (i := 14) rfl)) (hw _ (List.mem_of_getElem? (i := 42) rfl)) (by decide) [.int p2, .int (Int32.ofNat sz)] (rm7 l Z a0 hw p2 (Int32.ofNat sz) fm h0 Sfm rfm hid.1 hid.2) pd_2 rfl (hb hby d6_3) rfl (by rw [hml]; rfl) (by decide) 0 (Nat.le_of_eq rfl) (by decide) (by decide) (by decide) ?_
  intro T11 X11 e11
  refine g_aloadN (n := 7) X11 hx (hb hby d6_6) rfl rfl rfl ?_
  refine g_iloadN (n := 8) X11 hx (hb hby d6_7) rfl rfl ?_
  refine g_baload (n := 9) X11 hx hZ e11 A j hj hlt (.int cv) hv (hb hby d6_8) rfl ?_
  refine g_sipush (n := 12) X11 hx (255 : Int32) (hb hby d6_9) rfl rfl ?_
  refine g_iand (n := 13) X11 hx (hb hby d6_12) rfl ?_
  refine g_i2c (n := 14) X11 hx (hb hby d6_13) rfl ?_
  refine g_retN X11 hx (by simp) (own_char_nar _) hret hlk (hb hby d6_14) (Fe.of (by decide) (by decide)) ?_
  try rw [e11]
  exact ⟨rfl, rfl, rfl⟩
theorem d4_0 : decode jdk_42_method_56_code 0 = .ok (.aload_n 0, 1) := by decide +kernel
theorem d4_1 : decode jdk_42_method_56_code 1 = .ok (.invokevirtual 492, 3) := by decide +kernel
theorem d4_4 : decode jdk_42_method_56_code 4 = .ok (.ifCond .eq 12, 3) := by decide +kernel
theorem d4_7 : decode jdk_42_method_56_code 7 = .ok (.aload_n 0, 1) := by decide +kernel
theorem d4_8 : decode jdk_42_method_56_code 8 = .ok (.getfield 9, 3) := by decide +kernel
theorem d4_11 : decode jdk_42_method_56_code 11 = .ok (.iload_n 1, 1) := by decide +kernel
theorem d4_12 : decode jdk_42_method_56_code 12 = .ok (.invokestatic 495, 3) := by decide +kernel
theorem d4_15 : decode jdk_42_method_56_code 15 = .ok (.ireturn, 1) := by decide +kernel
theorem d4_16 : decode jdk_42_method_56_code 16 = .ok (.aload_n 0, 1) := by decide +kernel
theorem d4_17 : decode jdk_42_method_56_code 17 = .ok (.getfield 9, 3) := by decide +kernel
theorem d4_20 : decode jdk_42_method_56_code 20 = .ok (.iload_n 1, 1) := by decide +kernel
theorem d4_21 : decode jdk_42_method_56_code 21 = .ok (.invokestatic 498, 3) := by decide +kernel
theorem d4_24 : decode jdk_42_method_56_code 24 = .ok (.ireturn, 1) := by decide +kernel
theorem pn_4 : plainFor (⟨"java/lang/String", "charAt", "(I)C"⟩ : MethodName) = true := by first | (exact plainFor_of_name (by first | (simp [plainName, overriddenIn, x]; done) | decide +kernel)) | decide +kernel
set_option maxRecDepth 65536 in
set_option maxHeartbeats 40000000 in
theorem rm4 (l : Launch) (Z : State) (a0 : Array Value) (hw : ∀ d ∈ tables_1, d.before a0 Z = true) (a1 b1 : Nat) (p2 : Int32) (sz j : Nat) (g : Nat → Value) (cv : Int32) (fm : Value) (cs : Int32) (h0 : Heap) (Scs : Sta Z h0 "java/lang/String" "COMPACT_STRINGS" "Z" (.int cs)) (hcs : ¬ cs = 0) (Sfm : Sta Z h0 "jdk/internal/util/Preconditions" "SIOOBE_FORMATTER" "Ljava/util/function/BiFunction;" fm) (rfm : fm.isRef = true) (S : Ostr Z h0 a1 b1 sz g) (hj : p2 = Int32.ofNat j) (hlt : j < sz) (hv : g j = .int cv) :
    OMet l Z (⟨"java/lang/String", "charAt", "(I)C"⟩ : MethodName) jdk_42_method_56_code 2 (some (.char)) [] ({ frames := 3, cells := 0, slots := 0, locals := 40 } : Room) #[.ref a1, .int p2] h0 (Pu (.int (cv &&& (255 : Int32)).toUInt32.toUInt16.toUInt32.toInt32) h0) := by
  refine own_body (Ls := #[.val (.ref a1), .val (.int p2)]) pn_4 (fun m => by first | (simp [entryFrame, mkF, argsToLocals, Value.category, maxLocals]; done) | rfl) ?_
  intro p e s m below meth c s₁ X0 hx hby hml hown hnm hret hlk hZ e0
  refine g_aloadN (n := 1) X0 hx (hb hby d4_0) rfl rfl rfl ?_
  refine g_callVP (n := 4) (st := []) X0 hx hZ hown e0 (hw _ (List.mem_of_getElem? (i := 31) rfl)) (hw _ (List.mem_of_getElem? (i := 32) rfl)) (notFace_of_selects (args := #[]) (mvT hZ (hw _ (List.mem_of_getElem? (i := 34) rfl)))) (hw _ (List.mem_of_getElem? (i := 34) rfl)) (hw _ (List.mem_of_getElem? (i := 33) rfl)) (hw _ (List.mem_of_getElem? (i := 14) rfl)) (hw _ (List.mem_of_getElem? (i := 35) rfl)) (by decide) a1 S.1 [] (rm5 l Z a0 hw a1 cs h0 Scs hcs S.2.1) pd_3 rfl (hb hby d4_1) rfl (by rw [hml]; rfl) (by decide) 0 (Nat.le_of_eq rfl) (by decide) (by decide) (by decide) ?_
  intro T11 X11 e11
  refine g_if (n := 16) (n' := 7) X11 hx _ (own_zeq _) (hb hby d4_4) (by decide) (by decide) rfl (fun hc => absurd hc (by decide)) (fun _ => ?_)
  refine g_aloadN (n := 8) X11 hx (hb hby d4_7) rfl rfl rfl ?_
  refine g_getF (n := 11) X11 hx hZ hown (hw _ (List.mem_of_getElem? (i := 16) rfl)) e11 S.2.2.1 (hb hby d4_8) rfl ?_
  intro T12 X12 e12
  refine g_iloadN (n := 12) X12 hx (hb hby d4_11) rfl rfl ?_
  refine g_callSP (n := 15) (st := []) X12 hx hZ hown e12 (hw _ (List.mem_of_getElem? (i := 36) rfl)) (hw _ (List.mem_of_getElem? (i := 37) rfl)) (hw _ (List.mem_of_getElem? (i := 38) rfl)) (hw _ (List.mem_of_getElem? (i := 39) rfl)) (by decide) [.ref b1, .int p2] (rm6 l Z a0 hw b1 p2 sz j g cv fm h0 Sfm rfm S.2.2.2 hj hlt hv) pd_4 rfl (hb hby d4_12) rfl (by rw [hml]; rfl) (by decide) 0 (Nat.le_of_eq rfl) (by decide) (by decide) (by decide) ?_
  intro T13 X13 e13
  refine g_retN X13 hx (by simp) (own_char_nar _) hret hlk (hb hby d4_15) (Fe.of (by decide) (by decide)) ?_
  try rw [e13]
  exact ⟨rfl, rfl, rfl⟩
theorem d1_0 : decode prog_30_method_4_code 0 = .ok (.aload_n 0, 1) := by decide +kernel
theorem d1_1 : decode prog_30_method_4_code 1 = .ok (.getfield 35, 3) := by decide +kernel
theorem d1_4 : decode prog_30_method_4_code 4 = .ok (.areturn, 1) := by decide +kernel
theorem pn_1 : plainFor (⟨"com/example/lock_lease/locklease/store/TlsParameters$Mode", "word", "()Ljava/lang/String;"⟩ : MethodName) = true := by first | (exact plainFor_of_name (by first | (simp [plainName, overriddenIn, x]; done) | decide +kernel)) | decide +kernel
set_option maxRecDepth 65536 in
set_option maxHeartbeats 40000000 in
theorem rm1 (l : Launch) (Z : State) (a0 : Array Value) (hw : ∀ d ∈ tables_1, d.before a0 Z = true) (a1 s1 : Nat) (h0 : Heap) (F : Fld Z h0 a1 "com/example/lock_lease/locklease/store/TlsParameters$Mode" "word" "Ljava/lang/String;" (.ref s1)) :
    OMet l Z (⟨"com/example/lock_lease/locklease/store/TlsParameters$Mode", "word", "()Ljava/lang/String;"⟩ : MethodName) prog_30_method_4_code 1 (some (.object "java/lang/String")) [] ({ frames := 0, cells := 0, slots := 0, locals := 0 } : Room) #[.ref a1] h0 (Pu (.ref s1) h0) := by
  refine own_body (Ls := #[.val (.ref a1)]) pn_1 (fun m => by first | (simp [entryFrame, mkF, argsToLocals, Value.category, maxLocals]; done) | rfl) ?_
  intro p e s m below meth c s₁ X0 hx hby hml hown hnm hret hlk hZ e0
  refine g_aloadN (n := 1) X0 hx (hb hby d1_0) rfl rfl rfl ?_
  refine g_getF (n := 4) X0 hx hZ hown (hw _ (List.mem_of_getElem? (i := 8) rfl)) e0 F (hb hby d1_1) rfl ?_
  intro T11 X11 e11
  refine g_retA X11 hx hret rfl rfl hlk (hb hby d1_4) (Fe.of (by decide) (by decide)) ?_
  try rw [e11]
  exact ⟨rfl, rfl, rfl⟩
theorem d9_0 : decode prog_30_method_5_code 0 = .ok (.aload_n 0, 1) := by decide +kernel
theorem d9_1 : decode prog_30_method_5_code 1 = .ok (.getstatic 10, 3) := by decide +kernel
theorem d9_4 : decode prog_30_method_5_code 4 = .ok (.if_acmp .eq 10, 3) := by decide +kernel
theorem d9_7 : decode prog_30_method_5_code 7 = .ok (.aload_n 0, 1) := by decide +kernel
theorem d9_8 : decode prog_30_method_5_code 8 = .ok (.getstatic 13, 3) := by decide +kernel
theorem d9_11 : decode prog_30_method_5_code 11 = .ok (.if_acmp .ne 7, 3) := by decide +kernel
theorem d9_14 : decode prog_30_method_5_code 14 = .ok (.iconst 1, 1) := by decide +kernel
theorem d9_15 : decode prog_30_method_5_code 15 = .ok (.goto 4, 3) := by decide +kernel
theorem d9_18 : decode prog_30_method_5_code 18 = .ok (.iconst 0, 1) := by decide +kernel
theorem d9_19 : decode prog_30_method_5_code 19 = .ok (.ireturn, 1) := by decide +kernel
theorem pn_9 : plainFor (⟨"com/example/lock_lease/locklease/store/TlsParameters$Mode", "verifiesServer", "()Z"⟩ : MethodName) = true := by first | (exact plainFor_of_name (by first | (simp [plainName, overriddenIn, x]; done) | decide +kernel)) | decide +kernel
set_option maxRecDepth 65536 in
set_option maxHeartbeats 40000000 in
theorem rm9 (l : Launch) (Z : State) (a0 : Array Value) (hw : ∀ d ∈ tables_1, d.before a0 Z = true) (a1 mC mF : Nat) (h0 : Heap) (SC : Sta Z h0 "com/example/lock_lease/locklease/store/TlsParameters$Mode" "VERIFY_CA" "Lcom/example/lock_lease/locklease/store/TlsParameters$Mode;" (.ref mC)) (SF : Sta Z h0 "com/example/lock_lease/locklease/store/TlsParameters$Mode" "VERIFY_FULL" "Lcom/example/lock_lease/locklease/store/TlsParameters$Mode;" (.ref mF)) :
    OMet l Z (⟨"com/example/lock_lease/locklease/store/TlsParameters$Mode", "verifiesServer", "()Z"⟩ : MethodName) prog_30_method_5_code 1 (some (.boolean)) [] ({ frames := 0, cells := 0, slots := 0, locals := 0 } : Room) #[.ref a1] h0 (Pu (.int (own_ver a1 mC mF)) h0) := by
  refine own_body (Ls := #[.val (.ref a1)]) pn_9 (fun m => by first | (simp [entryFrame, mkF, argsToLocals, Value.category, maxLocals]; done) | rfl) ?_
  intro p e s m below meth c s₁ X0 hx hby hml hown hnm hret hlk hZ e0
  refine g_aloadN (n := 1) X0 hx (hb hby d9_0) rfl rfl rfl ?_
  refine g_getS (n := 4) X0 hx hZ hown (hw _ (List.mem_of_getElem? (i := 53) rfl)) e0 SC (hb hby d9_1) rfl ?_
  intro T11 X11 e11
  refine g_acmp (n := 14) (n' := 7) X11 hx _ (own_aeq _ _) rfl rfl (hb hby d9_4) (by decide) (by decide) rfl (fun hc1 => ?_) (fun hc1 => ?_)
  · refine g_iconst (n := 15) X11 hx (1 : Int32) (hb hby d9_14) rfl rfl ?_
    refine g_goto (n := 19) X11 hx (hb hby d9_15) (by decide) (by decide) ?_
    refine g_retZ X11 hx (by decide) hret hlk (hb hby d9_19) (Fe.of (by decide) (by decide)) ?_
    try rw [e11]
    exact ⟨by simp_all [own_ver], rfl, rfl⟩
  · refine g_aloadN (n := 8) X11 hx (hb hby d9_7) rfl rfl rfl ?_
    refine g_getS (n := 11) X11 hx hZ hown (hw _ (List.mem_of_getElem? (i := 55) rfl)) e11 SF (hb hby d9_8) rfl ?_
    intro T12 X12 e12
    refine g_acmp (n := 18) (n' := 14) X12 hx _ (own_ane _ _) rfl rfl (hb hby d9_11) (by decide) (by decide) rfl (fun hc2 => ?_) (fun hc2 => ?_)
    · refine g_iconst (n := 19) X12 hx (0 : Int32) (hb hby d9_18) rfl rfl ?_
      refine g_retZ X12 hx (by decide) hret hlk (hb hby d9_19) (Fe.of (by decide) (by decide)) ?_
      try rw [e12]
      exact ⟨by simp_all [own_ver], rfl, rfl⟩
    · refine g_iconst (n := 15) X12 hx (1 : Int32) (hb hby d9_14) rfl rfl ?_
      refine g_goto (n := 19) X12 hx (hb hby d9_15) (by decide) (by decide) ?_
      refine g_retZ X12 hx (by decide) hret hlk (hb hby d9_19) (Fe.of (by decide) (by decide)) ?_
      try rw [e12]
      exact ⟨by simp_all [own_ver], rfl, rfl⟩
theorem pn_0 : plainFor x = true := by first | (exact plainFor_of_name (by first | (simp [plainName, overriddenIn, x]; done) | decide +kernel)) | decide +kernel
set_option maxRecDepth 65536 in
set_option maxHeartbeats 40000000 in
theorem rm0 (l : Launch) (Z : State) (a0 : Array Value) (hw : ∀ d ∈ tables_1, d.before a0 Z = true) (p1 : Int32) (mD sD bD mR sR bR mC sC bC mF sF bF : Nat) (gD gR gC gF : Nat → Value) (cs : Int32) (fm : Value) (h0 : Heap) (Scs : Sta Z h0 "java/lang/String" "COMPACT_STRINGS" "Z" (.int cs)) (hcs : ¬ cs = 0) (Sfm : Sta Z h0 "jdk/internal/util/Preconditions" "SIOOBE_FORMATTER" "Ljava/util/function/BiFunction;" fm) (rfm : fm.isRef = true) (SD : Sta Z h0 "com/example/lock_lease/locklease/store/TlsParameters$Mode" "DISABLE" "Lcom/example/lock_lease/locklease/store/TlsParameters$Mode;" (.ref mD)) (ED : Exa Z h0 mD "com/example/lock_lease/locklease/store/TlsParameters$Mode") (FD : Fld Z h0 mD "com/example/lock_lease/locklease/store/TlsParameters$Mode" "word" "Ljava/lang/String;" (.ref sD)) (stD : Ostr Z h0 sD bD 7 gD) (vD0 : gD 0 = .int 100) (hvD : own_ver mD mC mF = 0) (SR : Sta Z h0 "com/example/lock_lease/locklease/store/TlsParameters$Mode" "REQUIRE" "Lcom/example/lock_lease/locklease/store/TlsParameters$Mode;" (.ref mR)) (ER : Exa Z h0 mR "com/example/lock_lease/locklease/store/TlsParameters$Mode") (FR : Fld Z h0 mR "com/example/lock_lease/locklease/store/TlsParameters$Mode" "word" "Ljava/lang/String;" (.ref sR)) (stR : Ostr Z h0 sR bR 7 gR) (vR0 : gR 0 = .int 114) (hvR : own_ver mR mC mF = 0) (SC : Sta Z h0 "com/example/lock_lease/locklease/store/TlsParameters$Mode" "VERIFY_CA" "Lcom/example/lock_lease/locklease/store/TlsParameters$Mode;" (.ref mC)) (EC : Exa Z h0 mC "com/example/lock_lease/locklease/store/TlsParameters$Mode") (FC : Fld Z h0 mC "com/example/lock_lease/locklease/store/TlsParameters$Mode" "word" "Ljava/lang/String;" (.ref sC)) (stC : Ostr Z h0 sC bC 9 gC) (vC0 : gC 0 = .int 118) (hvC : own_ver mC mC mF = 1) (SF : Sta Z h0 "com/example/lock_lease/locklease/store/TlsParameters$Mode" "VERIFY_FULL" "Lcom/example/lock_lease/locklease/store/TlsParameters$Mode;" (.ref mF)) (EF : Exa Z h0 mF "com/example/lock_lease/locklease/store/TlsParameters$Mode") (FF : Fld Z h0 mF "com/example/lock_lease/locklease/store/TlsParameters$Mode" "word" "Ljava/lang/String;" (.ref sF)) (stF : Ostr Z h0 sF bF 11 gF) (vF0 : gF 0 = .int 118) (hvF : own_ver mF mC mF = 1) :
    OMet l Z x code maxLocals ret tables_1 room_1 #[.int p1] h0 (fun v h L => v = some (.int 1) ∧ Fr h0.size L) := by
  refine own_body (Ls := #[.val (.int p1), .unset, .unset, .unset, .unset, .unset]) pn_0 (fun m => by first | (simp [entryFrame, mkF, argsToLocals, Value.category, maxLocals]; done) | rfl) ?_
  intro p e s m below meth c s₁ X0 hx hby hml hown hnm hret hlk hZ e0
  refine g_iloadN (n := 1) X0 hx (hb hby at_0) rfl rfl ?_
  refine g_iconst (n := 2) X0 hx (3 : Int32) (hb hby at_1) rfl rfl ?_
  refine g_iand (n := 3) X0 hx (hb hby at_2) rfl ?_
  rcases own_m3 p1 with h | h | h | h
  · rw [h]
    refine g_istoreN (n := 4) X0 hx (hb hby at_3) rfl #[.val (.int p1), .val (.int (0 : Int32)), .unset, .unset, .unset, .unset] rfl ?_
    refine g_iloadN (n := 5) X0 hx (hb hby at_4) rfl rfl ?_
    refine g_if (n := 15) (n' := 8) X0 hx _ (own_zne _) (hb hby at_5) (by decide) (by decide) rfl (fun hc => absurd hc (by decide)) (fun _ => ?_)
    refine g_getS (n := 11) X0 hx hZ hown (hw _ (List.mem_of_getElem? (i := 0) rfl)) e0 SD (hb hby at_8) rfl ?_
    intro T11 X11 e11
    refine g_astoreN (n := 12) X11 hx (hb hby at_11) rfl rfl #[.val (.int p1), .val (.int (0 : Int32)), .val (.ref mD), .unset, .unset, .unset] rfl ?_
    refine g_goto (n := 43) X11 hx (hb hby at_12) (by decide) (by decide) ?_
    refine g_iloadN (n := 44) X11 hx (hb hby at_43) rfl rfl ?_
    refine g_iconst (n := 45) X11 hx (2 : Int32) (hb hby at_44) rfl rfl ?_
    refine g_icmp (n := 52) (n' := 48) X11 hx _ (own_clt _ _) (hb hby at_45) (by decide) (by decide) rfl (fun _ => ?_) (fun hc => absurd (by decide) hc)
    refine g_iconst (n := 53) X11 hx (0 : Int32) (hb hby at_52) rfl rfl ?_
    refine g_istoreN (n := 54) X11 hx (hb hby at_53) rfl #[.val (.int p1), .val (.int (0 : Int32)), .val (.ref mD), .val (.int (0 : Int32)), .unset, .unset] rfl ?_
    refine g_aloadN (n := 55) X11 hx (hb hby at_54) rfl rfl rfl ?_
    refine g_callVP (n := 58) (st := []) X11 hx hZ hown e11 (hw _ (List.mem_of_getElem? (i := 3) rfl)) (hw _ (List.mem_of_getElem? (i := 4) rfl)) (notFace_of_selects (args := #[]) (mvT hZ (hw _ (List.mem_of_getElem? (i := 6) rfl)))) (hw _ (List.mem_of_getElem? (i := 6) rfl)) (hw _ (List.mem_of_getElem? (i := 5) rfl)) (hw _ (List.mem_of_getElem? (i := 1) rfl)) (hw _ (List.mem_of_getElem? (i := 7) rfl)) (by decide) mD ED [] (rm1 l Z a0 hw mD sD h0 FD) pd_5 rfl (hb hby at_55) rfl (by rw [hml]; rfl) (by decide) 0 (Nat.le_of_eq rfl) (by decide) (by decide) (by decide) ?_
    intro T12 X12 e12
    refine g_astore (n := 60) X12 hx (hb hby at_58) rfl rfl #[.val (.int p1), .val (.int (0 : Int32)), .val (.ref mD), .val (.int (0 : Int32)), .val (.ref sD), .unset] rfl ?_
    refine g_aload (n := 62) X12 hx (hb hby at_60) rfl rfl rfl ?_
    refine g_callVP (n := 65) (st := []) X12 hx hZ hown e12 (hw _ (List.mem_of_getElem? (i := 10) rfl)) (hw _ (List.mem_of_getElem? (i := 11) rfl)) (notFace_of_selects (args := #[]) (mvT hZ (hw _ (List.mem_of_getElem? (i := 13) rfl)))) (hw _ (List.mem_of_getElem? (i := 13) rfl)) (hw _ (List.mem_of_getElem? (i := 12) rfl)) (hw _ (List.mem_of_getElem? (i := 14) rfl)) (hw _ (List.mem_of_getElem? (i := 15) rfl)) (by decide) sD stD.1 [] (rm2 l Z a0 hw sD bD 7 gD cs h0 Scs hcs stD) pd_6 rfl (hb hby at_62) rfl (by rw [hml]; rfl) (by decide) 0 (Nat.le_of_eq rfl) (by decide) (by decide) (by decide) ?_
    intro T13 X13 e13
    refine g_if (n := 83) (n' := 68) X13 hx _ (own_zle _) (hb hby at_65) (by decide) (by decide) rfl (fun hc => absurd hc (by decide)) (fun _ => ?_)
    refine g_aload (n := 70) X13 hx (hb hby at_68) rfl rfl rfl ?_
    refine g_iconst (n := 71) X13 hx (0 : Int32) (hb hby at_70) rfl rfl ?_
    refine g_callVP (n := 74) (st := []) X13 hx hZ hown e13 (hw _ (List.mem_of_getElem? (i := 26) rfl)) (hw _ (List.mem_of_getElem? (i := 27) rfl)) (notFace_of_selects (args := #[]) (mvT hZ (hw _ (List.mem_of_getElem? (i := 29) rfl)))) (hw _ (List.mem_of_getElem? (i := 29) rfl)) (hw _ (List.mem_of_getElem? (i := 28) rfl)) (hw _ (List.mem_of_getElem? (i := 14) rfl)) (hw _ (List.mem_of_getElem? (i := 30) rfl)) (by decide) sD stD.1 [.int (0 : Int32)] (rm4 l Z a0 hw sD bD (0 : Int32) 7 0 gD 100 fm cs h0 Scs hcs Sfm rfm stD rfl (by decide) vD0) pd_7 rfl (hb hby at_71) rfl (by rw [hml]; rfl) (by decide) 0 (Nat.le_of_eq rfl) (by decide) (by decide) (by decide) ?_
    intro T14 X14 e14
    refine g_bipush (n := 76) X14 hx (118 : Int32) (hb hby at_74) rfl rfl ?_
    refine g_icmp (n := 83) (n' := 79) X14 hx _ (own_cne _ _) (hb hby at_76) (by decide) (by decide) rfl (fun _ => ?_) (fun hc => absurd (by decide) hc)
    refine g_iconst (n := 84) X14 hx (0 : Int32) (hb hby at_83) rfl rfl ?_
    refine g_istore (n := 86) X14 hx (hb hby at_84) rfl #[.val (.int p1), .val (.int (0 : Int32)), .val (.ref mD), .val (.int (0 : Int32)), .val (.ref sD), .val (.int (0 : Int32))] rfl ?_
    refine g_aloadN (n := 87) X14 hx (hb hby at_86) rfl rfl rfl ?_
    refine g_callVP (n := 90) (st := []) X14 hx hZ hown e14 (hw _ (List.mem_of_getElem? (i := 48) rfl)) (hw _ (List.mem_of_getElem? (i := 49) rfl)) (notFace_of_selects (args := #[]) (mvT hZ (hw _ (List.mem_of_getElem? (i := 51) rfl)))) (hw _ (List.mem_of_getElem? (i := 51) rfl)) (hw _ (List.mem_of_getElem? (i := 50) rfl)) (hw _ (List.mem_of_getElem? (i := 1) rfl)) (hw _ (List.mem_of_getElem? (i := 52) rfl)) (by decide) mD ED [] (rm9 l Z a0 hw mD mC mF h0 SC SF) pd_3 rfl (hb hby at_87) rfl (by rw [hml]; rfl) (by decide) 0 (Nat.le_of_eq rfl) (by decide) (by decide) (by decide) ?_
    intro T15 X15 e15
    refine g_iloadN (n := 91) X15 hx (hb hby at_90) rfl rfl ?_
    refine g_icmp (n := 104) (n' := 94) X15 hx _ (own_cne _ _) (hb hby at_91) (by decide) (by decide) rfl (fun hc => absurd hc (fun q => q hvD)) (fun _ => ?_)
    refine g_iloadN (n := 95) X15 hx (hb hby at_94) rfl rfl ?_
    refine g_iload (n := 97) X15 hx (hb hby at_95) rfl rfl ?_
    refine g_icmp (n := 104) (n' := 100) X15 hx _ (own_cne _ _) (hb hby at_97) (by decide) (by decide) rfl (fun hc => absurd hc (by decide)) (fun _ => ?_)
    refine g_iconst (n := 101) X15 hx (1 : Int32) (hb hby at_100) rfl rfl ?_
    refine g_goto (n := 105) X15 hx (hb hby at_101) (by decide) (by decide) ?_
    refine g_retZ X15 hx (by decide) hret hlk (hb hby at_105) (Fe.of (by decide) (by decide)) ?_
    try rw [e15]
    exact ⟨rfl, Fr.nil _⟩
  · rw [h]
    refine g_istoreN (n := 4) X0 hx (hb hby at_3) rfl #[.val (.int p1), .val (.int (1 : Int32)), .unset, .unset, .unset, .unset] rfl ?_
    refine g_iloadN (n := 5) X0 hx (hb hby at_4) rfl rfl ?_
    refine g_if (n := 15) (n' := 8) X0 hx _ (own_zne _) (hb hby at_5) (by decide) (by decide) rfl (fun _ => ?_) (fun hc => absurd (by decide) hc)
    refine g_iloadN (n := 16) X0 hx (hb hby at_15) rfl rfl ?_
    refine g_iconst (n := 17) X0 hx (1 : Int32) (hb hby at_16) rfl rfl ?_
    refine g_icmp (n := 27) (n' := 20) X0 hx _ (own_cne _ _) (hb hby at_17) (by decide) (by decide) rfl (fun hc => absurd hc (by decide)) (fun _ => ?_)
    refine g_getS (n := 23) X0 hx hZ hown (hw _ (List.mem_of_getElem? (i := 59) rfl)) e0 SR (hb hby at_20) rfl ?_
    intro T11 X11 e11
    refine g_astoreN (n := 24) X11 hx (hb hby at_23) rfl rfl #[.val (.int p1), .val (.int (1 : Int32)), .val (.ref mR), .unset, .unset, .unset] rfl ?_
    refine g_goto (n := 43) X11 hx (hb hby at_24) (by decide) (by decide) ?_
    refine g_iloadN (n := 44) X11 hx (hb hby at_43) rfl rfl ?_
    refine g_iconst (n := 45) X11 hx (2 : Int32) (hb hby at_44) rfl rfl ?_
    refine g_icmp (n := 52) (n' := 48) X11 hx _ (own_clt _ _) (hb hby at_45) (by decide) (by decide) rfl (fun _ => ?_) (fun hc => absurd (by decide) hc)
    refine g_iconst (n := 53) X11 hx (0 : Int32) (hb hby at_52) rfl rfl ?_
    refine g_istoreN (n := 54) X11 hx (hb hby at_53) rfl #[.val (.int p1), .val (.int (1 : Int32)), .val (.ref mR), .val (.int (0 : Int32)), .unset, .unset] rfl ?_
    refine g_aloadN (n := 55) X11 hx (hb hby at_54) rfl rfl rfl ?_
    refine g_callVP (n := 58) (st := []) X11 hx hZ hown e11 (hw _ (List.mem_of_getElem? (i := 3) rfl)) (hw _ (List.mem_of_getElem? (i := 4) rfl)) (notFace_of_selects (args := #[]) (mvT hZ (hw _ (List.mem_of_getElem? (i := 6) rfl)))) (hw _ (List.mem_of_getElem? (i := 6) rfl)) (hw _ (List.mem_of_getElem? (i := 5) rfl)) (hw _ (List.mem_of_getElem? (i := 1) rfl)) (hw _ (List.mem_of_getElem? (i := 7) rfl)) (by decide) mR ER [] (rm1 l Z a0 hw mR sR h0 FR) pd_5 rfl (hb hby at_55) rfl (by rw [hml]; rfl) (by decide) 0 (Nat.le_of_eq rfl) (by decide) (by decide) (by decide) ?_
    intro T12 X12 e12
    refine g_astore (n := 60) X12 hx (hb hby at_58) rfl rfl #[.val (.int p1), .val (.int (1 : Int32)), .val (.ref mR), .val (.int (0 : Int32)), .val (.ref sR), .unset] rfl ?_
    refine g_aload (n := 62) X12 hx (hb hby at_60) rfl rfl rfl ?_
    refine g_callVP (n := 65) (st := []) X12 hx hZ hown e12 (hw _ (List.mem_of_getElem? (i := 10) rfl)) (hw _ (List.mem_of_getElem? (i := 11) rfl)) (notFace_of_selects (args := #[]) (mvT hZ (hw _ (List.mem_of_getElem? (i := 13) rfl)))) (hw _ (List.mem_of_getElem? (i := 13) rfl)) (hw _ (List.mem_of_getElem? (i := 12) rfl)) (hw _ (List.mem_of_getElem? (i := 14) rfl)) (hw _ (List.mem_of_getElem? (i := 15) rfl)) (by decide) sR stR.1 [] (rm2 l Z a0 hw sR bR 7 gR cs h0 Scs hcs stR) pd_6 rfl (hb hby at_62) rfl (by rw [hml]; rfl) (by decide) 0 (Nat.le_of_eq rfl) (by decide) (by decide) (by decide) ?_
    intro T13 X13 e13
    refine g_if (n := 83) (n' := 68) X13 hx _ (own_zle _) (hb hby at_65) (by decide) (by decide) rfl (fun hc => absurd hc (by decide)) (fun _ => ?_)
    refine g_aload (n := 70) X13 hx (hb hby at_68) rfl rfl rfl ?_
    refine g_iconst (n := 71) X13 hx (0 : Int32) (hb hby at_70) rfl rfl ?_
    refine g_callVP (n := 74) (st := []) X13 hx hZ hown e13 (hw _ (List.mem_of_getElem? (i := 26) rfl)) (hw _ (List.mem_of_getElem? (i := 27) rfl)) (notFace_of_selects (args := #[]) (mvT hZ (hw _ (List.mem_of_getElem? (i := 29) rfl)))) (hw _ (List.mem_of_getElem? (i := 29) rfl)) (hw _ (List.mem_of_getElem? (i := 28) rfl)) (hw _ (List.mem_of_getElem? (i := 14) rfl)) (hw _ (List.mem_of_getElem? (i := 30) rfl)) (by decide) sR stR.1 [.int (0 : Int32)] (rm4 l Z a0 hw sR bR (0 : Int32) 7 0 gR 114 fm cs h0 Scs hcs Sfm rfm stR rfl (by decide) vR0) pd_7 rfl (hb hby at_71) rfl (by rw [hml]; rfl) (by decide) 0 (Nat.le_of_eq rfl) (by decide) (by decide) (by decide) ?_
    intro T14 X14 e14
    refine g_bipush (n := 76) X14 hx (118 : Int32) (hb hby at_74) rfl rfl ?_
    refine g_icmp (n := 83) (n' := 79) X14 hx _ (own_cne _ _) (hb hby at_76) (by decide) (by decide) rfl (fun _ => ?_) (fun hc => absurd (by decide) hc)
    refine g_iconst (n := 84) X14 hx (0 : Int32) (hb hby at_83) rfl rfl ?_
    refine g_istore (n := 86) X14 hx (hb hby at_84) rfl #[.val (.int p1), .val (.int (1 : Int32)), .val (.ref mR), .val (.int (0 : Int32)), .val (.ref sR), .val (.int (0 : Int32))] rfl ?_
    refine g_aloadN (n := 87) X14 hx (hb hby at_86) rfl rfl rfl ?_
    refine g_callVP (n := 90) (st := []) X14 hx hZ hown e14 (hw _ (List.mem_of_getElem? (i := 48) rfl)) (hw _ (List.mem_of_getElem? (i := 49) rfl)) (notFace_of_selects (args := #[]) (mvT hZ (hw _ (List.mem_of_getElem? (i := 51) rfl)))) (hw _ (List.mem_of_getElem? (i := 51) rfl)) (hw _ (List.mem_of_getElem? (i := 50) rfl)) (hw _ (List.mem_of_getElem? (i := 1) rfl)) (hw _ (List.mem_of_getElem? (i := 52) rfl)) (by decide) mR ER [] (rm9 l Z a0 hw mR mC mF h0 SC SF) pd_3 rfl (hb hby at_87) rfl (by rw [hml]; rfl) (by decide) 0 (Nat.le_of_eq rfl) (by decide) (by decide) (by decide) ?_
    intro T15 X15 e15
    refine g_iloadN (n := 91) X15 hx (hb hby at_90) rfl rfl ?_
    refine g_icmp (n := 104) (n' := 94) X15 hx _ (own_cne _ _) (hb hby at_91) (by decide) (by decide) rfl (fun hc => absurd hc (fun q => q hvR)) (fun _ => ?_)
    refine g_iloadN (n := 95) X15 hx (hb hby at_94) rfl rfl ?_
    refine g_iload (n := 97) X15 hx (hb hby at_95) rfl rfl ?_
    refine g_icmp (n := 104) (n' := 100) X15 hx _ (own_cne _ _) (hb hby at_97) (by decide) (by decide) rfl (fun hc => absurd hc (by decide)) (fun _ => ?_)
    refine g_iconst (n := 101) X15 hx (1 : Int32) (hb hby at_100) rfl rfl ?_
    refine g_goto (n := 105) X15 hx (hb hby at_101) (by decide) (by decide) ?_
    refine g_retZ X15 hx (by decide) hret hlk (hb hby at_105) (Fe.of (by decide) (by decide)) ?_
    try rw [e15]
    exact ⟨rfl, Fr.nil _⟩
  · rw [h]
    refine g_istoreN (n := 4) X0 hx (hb hby at_3) rfl #[.val (.int p1), .val (.int (2 : Int32)), .unset, .unset, .unset, .unset] rfl ?_
    refine g_iloadN (n := 5) X0 hx (hb hby at_4) rfl rfl ?_
    refine g_if (n := 15) (n' := 8) X0 hx _ (own_zne _) (hb hby at_5) (by decide) (by decide) rfl (fun _ => ?_) (fun hc => absurd (by decide) hc)
    refine g_iloadN (n := 16) X0 hx (hb hby at_15) rfl rfl ?_
    refine g_iconst (n := 17) X0 hx (1 : Int32) (hb hby at_16) rfl rfl ?_
    refine g_icmp (n := 27) (n' := 20) X0 hx _ (own_cne _ _) (hb hby at_17) (by decide) (by decide) rfl (fun _ => ?_) (fun hc => absurd (by decide) hc)
    refine g_iloadN (n := 28) X0 hx (hb hby at_27) rfl rfl ?_
    refine g_iconst (n := 29) X0 hx (2 : Int32) (hb hby at_28) rfl rfl ?_
    refine g_icmp (n := 39) (n' := 32) X0 hx _ (own_cne _ _) (hb hby at_29) (by decide) (by decide) rfl (fun hc => absurd hc (by decide)) (fun _ => ?_)
    refine g_getS (n := 35) X0 hx hZ hown (hw _ (List.mem_of_getElem? (i := 58) rfl)) e0 SC (hb hby at_32) rfl ?_
    intro T11 X11 e11
    refine g_astoreN (n := 36) X11 hx (hb hby at_35) rfl rfl #[.val (.int p1), .val (.int (2 : Int32)), .val (.ref mC), .unset, .unset, .unset] rfl ?_
    refine g_goto (n := 43) X11 hx (hb hby at_36) (by decide) (by decide) ?_
    refine g_iloadN (n := 44) X11 hx (hb hby at_43) rfl rfl ?_
    refine g_iconst (n := 45) X11 hx (2 : Int32) (hb hby at_44) rfl rfl ?_
    refine g_icmp (n := 52) (n' := 48) X11 hx _ (own_clt _ _) (hb hby at_45) (by decide) (by decide) rfl (fun hc => absurd hc (by decide)) (fun _ => ?_)
    refine g_iconst (n := 49) X11 hx (1 : Int32) (hb hby at_48) rfl rfl ?_
    refine g_goto (n := 53) X11 hx (hb hby at_49) (by decide) (by decide) ?_
    refine g_istoreN (n := 54) X11 hx (hb hby at_53) rfl #[.val (.int p1), .val (.int (2 : Int32)), .val (.ref mC), .val (.int (1 : Int32)), .unset, .unset] rfl ?_
    refine g_aloadN (n := 55) X11 hx (hb hby at_54) rfl rfl rfl ?_
    refine g_callVP (n := 58) (st := []) X11 hx hZ hown e11 (hw _ (List.mem_of_getElem? (i := 3) rfl)) (hw _ (List.mem_of_getElem? (i := 4) rfl)) (notFace_of_selects (args := #[]) (mvT hZ (hw _ (List.mem_of_getElem? (i := 6) rfl)))) (hw _ (List.mem_of_getElem? (i := 6) rfl)) (hw _ (List.mem_of_getElem? (i := 5) rfl)) (hw _ (List.mem_of_getElem? (i := 1) rfl)) (hw _ (List.mem_of_getElem? (i := 7) rfl)) (by decide) mC EC [] (rm1 l Z a0 hw mC sC h0 FC) pd_5 rfl (hb hby at_55) rfl (by rw [hml]; rfl) (by decide) 0 (Nat.le_of_eq rfl) (by decide) (by decide) (by decide) ?_
    intro T12 X12 e12
    refine g_astore (n := 60) X12 hx (hb hby at_58) rfl rfl #[.val (.int p1), .val (.int (2 : Int32)), .val (.ref mC), .val (.int (1 : Int32)), .val (.ref sC), .unset] rfl ?_
    refine g_aload (n := 62) X12 hx (hb hby at_60) rfl rfl rfl ?_
    refine g_callVP (n := 65) (st := []) X12 hx hZ hown e12 (hw _ (List.mem_of_getElem? (i := 10) rfl)) (hw _ (List.mem_of_getElem? (i := 11) rfl)) (notFace_of_selects (args := #[]) (mvT hZ (hw _ (List.mem_of_getElem? (i := 13) rfl)))) (hw _ (List.mem_of_getElem? (i := 13) rfl)) (hw _ (List.mem_of_getElem? (i := 12) rfl)) (hw _ (List.mem_of_getElem? (i := 14) rfl)) (hw _ (List.mem_of_getElem? (i := 15) rfl)) (by decide) sC stC.1 [] (rm2 l Z a0 hw sC bC 9 gC cs h0 Scs hcs stC) pd_6 rfl (hb hby at_62) rfl (by rw [hml]; rfl) (by decide) 0 (Nat.le_of_eq rfl) (by decide) (by decide) (by decide) ?_
    intro T13 X13 e13
    refine g_if (n := 83) (n' := 68) X13 hx _ (own_zle _) (hb hby at_65) (by decide) (by decide) rfl (fun hc => absurd hc (by decide)) (fun _ => ?_)
    refine g_aload (n := 70) X13 hx (hb hby at_68) rfl rfl rfl ?_
    refine g_iconst (n := 71) X13 hx (0 : Int32) (hb hby at_70) rfl rfl ?_
    refine g_callVP (n := 74) (st := []) X13 hx hZ hown e13 (hw _ (List.mem_of_getElem? (i := 26) rfl)) (hw _ (List.mem_of_getElem? (i := 27) rfl)) (notFace_of_selects (args := #[]) (mvT hZ (hw _ (List.mem_of_getElem? (i := 29) rfl)))) (hw _ (List.mem_of_getElem? (i := 29) rfl)) (hw _ (List.mem_of_getElem? (i := 28) rfl)) (hw _ (List.mem_of_getElem? (i := 14) rfl)) (hw _ (List.mem_of_getElem? (i := 30) rfl)) (by decide) sC stC.1 [.int (0 : Int32)] (rm4 l Z a0 hw sC bC (0 : Int32) 9 0 gC 118 fm cs h0 Scs hcs Sfm rfm stC rfl (by decide) vC0) pd_7 rfl (hb hby at_71) rfl (by rw [hml]; rfl) (by decide) 0 (Nat.le_of_eq rfl) (by decide) (by decide) (by decide) ?_
    intro T14 X14 e14
    refine g_bipush (n := 76) X14 hx (118 : Int32) (hb hby at_74) rfl rfl ?_
    refine g_icmp (n := 83) (n' := 79) X14 hx _ (own_cne _ _) (hb hby at_76) (by decide) (by decide) rfl (fun hc => absurd hc (by decide)) (fun _ => ?_)
    refine g_iconst (n := 80) X14 hx (1 : Int32) (hb hby at_79) rfl rfl ?_
    refine g_goto (n := 84) X14 hx (hb hby at_80) (by decide) (by decide) ?_
    refine g_istore (n := 86) X14 hx (hb hby at_84) rfl #[.val (.int p1), .val (.int (2 : Int32)), .val (.ref mC), .val (.int (1 : Int32)), .val (.ref sC), .val (.int (1 : Int32))] rfl ?_
    refine g_aloadN (n := 87) X14 hx (hb hby at_86) rfl rfl rfl ?_
    refine g_callVP (n := 90) (st := []) X14 hx hZ hown e14 (hw _ (List.mem_of_getElem? (i := 48) rfl)) (hw _ (List.mem_of_getElem? (i := 49) rfl)) (notFace_of_selects (args := #[]) (mvT hZ (hw _ (List.mem_of_getElem? (i := 51) rfl)))) (hw _ (List.mem_of_getElem? (i := 51) rfl)) (hw _ (List.mem_of_getElem? (i := 50) rfl)) (hw _ (List.mem_of_getElem? (i := 1) rfl)) (hw _ (List.mem_of_getElem? (i := 52) rfl)) (by decide) mC EC [] (rm9 l Z a0 hw mC mC mF h0 SC SF) pd_3 rfl (hb hby at_87) rfl (by rw [hml]; rfl) (by decide) 0 (Nat.le_of_eq rfl) (by decide) (by decide) (by decide) ?_
    intro T15 X15 e15
    refine g_iloadN (n := 91) X15 hx (hb hby at_90) rfl rfl ?_
    refine g_icmp (n := 104) (n' := 94) X15 hx _ (own_cne _ _) (hb hby at_91) (by decide) (by decide) rfl (fun hc => absurd hc (fun q => q hvC)) (fun _ => ?_)
    refine g_iloadN (n := 95) X15 hx (hb hby at_94) rfl rfl ?_
    refine g_iload (n := 97) X15 hx (hb hby at_95) rfl rfl ?_
    refine g_icmp (n := 104) (n' := 100) X15 hx _ (own_cne _ _) (hb hby at_97) (by decide) (by decide) rfl (fun hc => absurd hc (by decide)) (fun _ => ?_)
    refine g_iconst (n := 101) X15 hx (1 : Int32) (hb hby at_100) rfl rfl ?_
    refine g_goto (n := 105) X15 hx (hb hby at_101) (by decide) (by decide) ?_
    refine g_retZ X15 hx (by decide) hret hlk (hb hby at_105) (Fe.of (by decide) (by decide)) ?_
    try rw [e15]
    exact ⟨rfl, Fr.nil _⟩
  · rw [h]
    refine g_istoreN (n := 4) X0 hx (hb hby at_3) rfl #[.val (.int p1), .val (.int (3 : Int32)), .unset, .unset, .unset, .unset] rfl ?_
    refine g_iloadN (n := 5) X0 hx (hb hby at_4) rfl rfl ?_
    refine g_if (n := 15) (n' := 8) X0 hx _ (own_zne _) (hb hby at_5) (by decide) (by decide) rfl (fun _ => ?_) (fun hc => absurd (by decide) hc)
    refine g_iloadN (n := 16) X0 hx (hb hby at_15) rfl rfl ?_
    refine g_iconst (n := 17) X0 hx (1 : Int32) (hb hby at_16) rfl rfl ?_
    refine g_icmp (n := 27) (n' := 20) X0 hx _ (own_cne _ _) (hb hby at_17) (by decide) (by decide) rfl (fun _ => ?_) (fun hc => absurd (by decide) hc)
    refine g_iloadN (n := 28) X0 hx (hb hby at_27) rfl rfl ?_
    refine g_iconst (n := 29) X0 hx (2 : Int32) (hb hby at_28) rfl rfl ?_
    refine g_icmp (n := 39) (n' := 32) X0 hx _ (own_cne _ _) (hb hby at_29) (by decide) (by decide) rfl (fun _ => ?_) (fun hc => absurd (by decide) hc)
    refine g_getS (n := 42) X0 hx hZ hown (hw _ (List.mem_of_getElem? (i := 57) rfl)) e0 SF (hb hby at_39) rfl ?_
    intro T11 X11 e11
    refine g_astoreN (n := 43) X11 hx (hb hby at_42) rfl rfl #[.val (.int p1), .val (.int (3 : Int32)), .val (.ref mF), .unset, .unset, .unset] rfl ?_
    refine g_iloadN (n := 44) X11 hx (hb hby at_43) rfl rfl ?_
    refine g_iconst (n := 45) X11 hx (2 : Int32) (hb hby at_44) rfl rfl ?_
    refine g_icmp (n := 52) (n' := 48) X11 hx _ (own_clt _ _) (hb hby at_45) (by decide) (by decide) rfl (fun hc => absurd hc (by decide)) (fun _ => ?_)
    refine g_iconst (n := 49) X11 hx (1 : Int32) (hb hby at_48) rfl rfl ?_
    refine g_goto (n := 53) X11 hx (hb hby at_49) (by decide) (by decide) ?_
    refine g_istoreN (n := 54) X11 hx (hb hby at_53) rfl #[.val (.int p1), .val (.int (3 : Int32)), .val (.ref mF), .val (.int (1 : Int32)), .unset, .unset] rfl ?_
    refine g_aloadN (n := 55) X11 hx (hb hby at_54) rfl rfl rfl ?_
    refine g_callVP (n := 58) (st := []) X11 hx hZ hown e11 (hw _ (List.mem_of_getElem? (i := 3) rfl)) (hw _ (List.mem_of_getElem? (i := 4) rfl)) (notFace_of_selects (args := #[]) (mvT hZ (hw _ (List.mem_of_getElem? (i := 6) rfl)))) (hw _ (List.mem_of_getElem? (i := 6) rfl)) (hw _ (List.mem_of_getElem? (i := 5) rfl)) (hw _ (List.mem_of_getElem? (i := 1) rfl)) (hw _ (List.mem_of_getElem? (i := 7) rfl)) (by decide) mF EF [] (rm1 l Z a0 hw mF sF h0 FF) pd_5 rfl (hb hby at_55) rfl (by rw [hml]; rfl) (by decide) 0 (Nat.le_of_eq rfl) (by decide) (by decide) (by decide) ?_
    intro T12 X12 e12
    refine g_astore (n := 60) X12 hx (hb hby at_58) rfl rfl #[.val (.int p1), .val (.int (3 : Int32)), .val (.ref mF), .val (.int (1 : Int32)), .val (.ref sF), .unset] rfl ?_
    refine g_aload (n := 62) X12 hx (hb hby at_60) rfl rfl rfl ?_
    refine g_callVP (n := 65) (st := []) X12 hx hZ hown e12 (hw _ (List.mem_of_getElem? (i := 10) rfl)) (hw _ (List.mem_of_getElem? (i := 11) rfl)) (notFace_of_selects (args := #[]) (mvT hZ (hw _ (List.mem_of_getElem? (i := 13) rfl)))) (hw _ (List.mem_of_getElem? (i := 13) rfl)) (hw _ (List.mem_of_getElem? (i := 12) rfl)) (hw _ (List.mem_of_getElem? (i := 14) rfl)) (hw _ (List.mem_of_getElem? (i := 15) rfl)) (by decide) sF stF.1 [] (rm2 l Z a0 hw sF bF 11 gF cs h0 Scs hcs stF) pd_6 rfl (hb hby at_62) rfl (by rw [hml]; rfl) (by decide) 0 (Nat.le_of_eq rfl) (by decide) (by decide) (by decide) ?_
    intro T13 X13 e13
    refine g_if (n := 83) (n' := 68) X13 hx _ (own_zle _) (hb hby at_65) (by decide) (by decide) rfl (fun hc => absurd hc (by decide)) (fun _ => ?_)
    refine g_aload (n := 70) X13 hx (hb hby at_68) rfl rfl rfl ?_
    refine g_iconst (n := 71) X13 hx (0 : Int32) (hb hby at_70) rfl rfl ?_
    refine g_callVP (n := 74) (st := []) X13 hx hZ hown e13 (hw _ (List.mem_of_getElem? (i := 26) rfl)) (hw _ (List.mem_of_getElem? (i := 27) rfl)) (notFace_of_selects (args := #[]) (mvT hZ (hw _ (List.mem_of_getElem? (i := 29) rfl)))) (hw _ (List.mem_of_getElem? (i := 29) rfl)) (hw _ (List.mem_of_getElem? (i := 28) rfl)) (hw _ (List.mem_of_getElem? (i := 14) rfl)) (hw _ (List.mem_of_getElem? (i := 30) rfl)) (by decide) sF stF.1 [.int (0 : Int32)] (rm4 l Z a0 hw sF bF (0 : Int32) 11 0 gF 118 fm cs h0 Scs hcs Sfm rfm stF rfl (by decide) vF0) pd_7 rfl (hb hby at_71) rfl (by rw [hml]; rfl) (by decide) 0 (Nat.le_of_eq rfl) (by decide) (by decide) (by decide) ?_
    intro T14 X14 e14
    refine g_bipush (n := 76) X14 hx (118 : Int32) (hb hby at_74) rfl rfl ?_
    refine g_icmp (n := 83) (n' := 79) X14 hx _ (own_cne _ _) (hb hby at_76) (by decide) (by decide) rfl (fun hc => absurd hc (by decide)) (fun _ => ?_)
    refine g_iconst (n := 80) X14 hx (1 : Int32) (hb hby at_79) rfl rfl ?_
    refine g_goto (n := 84) X14 hx (hb hby at_80) (by decide) (by decide) ?_
    refine g_istore (n := 86) X14 hx (hb hby at_84) rfl #[.val (.int p1), .val (.int (3 : Int32)), .val (.ref mF), .val (.int (1 : Int32)), .val (.ref sF), .val (.int (1 : Int32))] rfl ?_
    refine g_aloadN (n := 87) X14 hx (hb hby at_86) rfl rfl rfl ?_
    refine g_callVP (n := 90) (st := []) X14 hx hZ hown e14 (hw _ (List.mem_of_getElem? (i := 48) rfl)) (hw _ (List.mem_of_getElem? (i := 49) rfl)) (notFace_of_selects (args := #[]) (mvT hZ (hw _ (List.mem_of_getElem? (i := 51) rfl)))) (hw _ (List.mem_of_getElem? (i := 51) rfl)) (hw _ (List.mem_of_getElem? (i := 50) rfl)) (hw _ (List.mem_of_getElem? (i := 1) rfl)) (hw _ (List.mem_of_getElem? (i := 52) rfl)) (by decide) mF EF [] (rm9 l Z a0 hw mF mC mF h0 SC SF) pd_3 rfl (hb hby at_87) rfl (by rw [hml]; rfl) (by decide) 0 (Nat.le_of_eq rfl) (by decide) (by decide) (by decide) ?_
    intro T15 X15 e15
    refine g_iloadN (n := 91) X15 hx (hb hby at_90) rfl rfl ?_
    refine g_icmp (n := 104) (n' := 94) X15 hx _ (own_cne _ _) (hb hby at_91) (by decide) (by decide) rfl (fun hc => absurd hc (fun q => q hvF)) (fun _ => ?_)
    refine g_iloadN (n := 95) X15 hx (hb hby at_94) rfl rfl ?_
    refine g_iload (n := 97) X15 hx (hb hby at_95) rfl rfl ?_
    refine g_icmp (n := 104) (n' := 100) X15 hx _ (own_cne _ _) (hb hby at_97) (by decide) (by decide) rfl (fun hc => absurd hc (by decide)) (fun _ => ?_)
    refine g_iconst (n := 101) X15 hx (1 : Int32) (hb hby at_100) rfl rfl ?_
    refine g_goto (n := 105) X15 hx (hb hby at_101) (by decide) (by decide) ?_
    refine g_retZ X15 hx (by decide) hret hlk (hb hby at_105) (Fe.of (by decide) (by decide)) ?_
    try rw [e15]
    exact ⟨rfl, Fr.nil _⟩
set_option maxRecDepth 65536 in
set_option maxHeartbeats 40000000 in
theorem comes_1 {Post : Tables → Env → Array Value → State → Outcome → State → Prop} (hpost : ∀ tb e args s v u, (limb_1_1.after args s (.returned v) u = true ∧ limb_1_2.after args s (.returned v) u = true ∧ True) → FrameEnd s (.returned v) u (Jvm.fieldLocs frame_1_writes args s ++ Jvm.arrayLocs frame_1_arrays args s ++ Jvm.staticLocs frame_1_statics s) 0 0 → Post tb e args s (.returned v) u) :
    ArmFor flags0 classFile x code maxLocals ret World_1 tables_1 room_1 Calls_1 rest_1 Pre_1 Post := by
  intro l hfl _ _ p e ha hc hk s m args below hf hA hF happ hP
  obtain ⟨hcalls, hrest, hpre⟩ := hP
  obtain ⟨-, -, -, hnamed, -, -, -, hat⟩ := (Spec.applies_iff hf).mp happ
  obtain ⟨hg, hn⟩ := and_e (Cond.before_iff.mp (show (Jvm.Cond.and given_1 narrow_1).before args s = true from hpre))
  obtain ⟨h1, hg1⟩ := and_e hg
  obtain ⟨w0, rfl⟩ : ∃ w0 : Value, args = #[w0] := by
    have hs : args.size = 1 := by simpa [Cond.value, given_1] using h1
    obtain ⟨L⟩ := args
    match L, hs with
    | [w0], _ => exact ⟨w0, rfl⟩
  have hw := fun d (hd : d ∈ tables_1) => atoms_spec (ws := Jvm.Cond.code x code maxLocals ret :: tables_1) hat d (List.mem_cons_of_mem _ hd)
  have hfit : Fit s := fun {y c} hc i hi => by
    obtain ⟨ha, rfl⟩ := Array.getElem?_eq_some_iff.mp hc
    have q := List.all_eq_true.mp ((Array.all_eq_true_iff_forall_mem.mp hF) _ (Array.getElem_mem ha)) i (List.mem_range.mpr hi)
    simpa [Array.getElem?_eq_getElem hi] using q
  obtain ⟨i0, e0⟩ := is_v hg1
  obtain rfl : w0 = (.int i0) := Option.some.inj e0
  obtain ⟨n0, m0⟩ := and_e hn
  obtain ⟨n1, m1⟩ := and_e m0
  obtain ⟨n2, m2⟩ := and_e m1
  obtain ⟨n3, m3⟩ := and_e m2
  obtain ⟨n4, m4⟩ := and_e m3
  obtain ⟨n5, m5⟩ := and_e m4
  obtain ⟨n6, m6⟩ := and_e m5
  obtain ⟨n7, m7⟩ := and_e m6
  obtain ⟨n8, m8⟩ := and_e m7
  obtain ⟨n9, m9⟩ := and_e m8
  obtain ⟨n10, m10⟩ := and_e m9
  obtain ⟨n11, m11⟩ := and_e m10
  obtain ⟨n12, m12⟩ := and_e m11
  obtain ⟨n13, m13⟩ := and_e m12
  obtain ⟨n14, m14⟩ := and_e m13
  obtain ⟨n15, m15⟩ := and_e m14
  obtain ⟨n16, m16⟩ := and_e m15
  obtain ⟨n17, m17⟩ := and_e m16
  obtain ⟨n18, m18⟩ := and_e m17
  obtain ⟨n19, m19⟩ := and_e m18
  obtain ⟨n20, m20⟩ := and_e m19
  obtain ⟨n21, m21⟩ := and_e m20
  obtain ⟨n22, m22⟩ := and_e m21
  obtain ⟨n23, m23⟩ := and_e m22
  obtain ⟨n24, m24⟩ := and_e m23
  obtain ⟨n25, m25⟩ := and_e m24
  obtain ⟨n26, m26⟩ := and_e m25
  obtain ⟨n27, m27⟩ := and_e m26
  obtain ⟨n28, m28⟩ := and_e m27
  obtain ⟨n29, m29⟩ := and_e m28
  obtain ⟨n30, m30⟩ := and_e m29
  obtain ⟨n31, m31⟩ := and_e m30
  obtain ⟨n32, m32⟩ := and_e m31
  obtain ⟨n33, m33⟩ := and_e m32
  obtain ⟨n34, m34⟩ := and_e m33
  obtain ⟨n35, m35⟩ := and_e m34
  obtain ⟨n36, m36⟩ := and_e m35
  obtain ⟨n37, m37⟩ := and_e m36
  obtain ⟨n38, m38⟩ := and_e m37
  obtain ⟨n39, m39⟩ := and_e m38
  obtain ⟨n40, m40⟩ := and_e m39
  obtain ⟨n41, m41⟩ := and_e m40
  obtain ⟨n42, m42⟩ := and_e m41
  obtain ⟨n43, m43⟩ := and_e m42
  obtain ⟨n44, m44⟩ := and_e m43
  obtain ⟨n45, m45⟩ := and_e m44
  obtain ⟨n46, m46⟩ := and_e m45
  obtain ⟨n47, m47⟩ := and_e m46
  obtain ⟨n48, m48⟩ := and_e m47
  obtain ⟨n49, m49⟩ := and_e m48
  obtain ⟨n50, m50⟩ := and_e m49
  obtain ⟨n51, m51⟩ := and_e m50
  obtain ⟨n52, m52⟩ := and_e m51
  obtain ⟨n53, m53⟩ := and_e m52
  obtain ⟨n54, m54⟩ := and_e m53
  obtain ⟨n55, m55⟩ := and_e m54
  obtain ⟨n56, m56⟩ := and_e m55
  have n57 := m56
  obtain ⟨mD, evD, SD, ED⟩ := own_sta n0 (hw _ (List.mem_of_getElem? (i := 1) rfl)) (hw _ (List.mem_of_getElem? (i := 2) rfl))
  obtain ⟨sD, evsD, FD, EsD⟩ := own_fldE evD n1
  obtain ⟨bD, gD, -, FvD, AD, gvD⟩ := own_arr evsD n2 n3 (n := 7) rfl (by decide)
  have stD : Ostr s s.heap sD bD 7 gD := ⟨EsD, own_fldI evsD n4, FvD, AD⟩
  have vD0 : gD 0 = .int 100 := gvD 0 _ _ rfl (by decide) n24
  have OD := own_fldI evD n6
  obtain ⟨mR, evR, SR, ER⟩ := own_sta n18 (hw _ (List.mem_of_getElem? (i := 1) rfl)) (hw _ (List.mem_of_getElem? (i := 60) rfl))
  obtain ⟨sR, evsR, FR, EsR⟩ := own_fldE evR n19
  obtain ⟨bR, gR, -, FvR, AR, gvR⟩ := own_arr evsR n20 n21 (n := 7) rfl (by decide)
  have stR : Ostr s s.heap sR bR 7 gR := ⟨EsR, own_fldI evsR n22, FvR, AR⟩
  have vR0 : gR 0 = .int 114 := gvR 0 _ _ rfl (by decide) n51
  have OR := own_fldI evR n23
  obtain ⟨mC, evC, SC, EC⟩ := own_sta n5 (hw _ (List.mem_of_getElem? (i := 1) rfl)) (hw _ (List.mem_of_getElem? (i := 54) rfl))
  obtain ⟨sC, evsC, FC, EsC⟩ := own_fldE evC n14
  obtain ⟨bC, gC, -, FvC, AC, gvC⟩ := own_arr evsC n15 n16 (n := 9) rfl (by decide)
  have stC : Ostr s s.heap sC bC 9 gC := ⟨EsC, own_fldI evsC n17, FvC, AC⟩
  have vC0 : gC 0 = .int 118 := gvC 0 _ _ rfl (by decide) n42
  have OC := own_fldI evC n7
  obtain ⟨mF, evF, SF, EF⟩ := own_sta n8 (hw _ (List.mem_of_getElem? (i := 1) rfl)) (hw _ (List.mem_of_getElem? (i := 56) rfl))
  obtain ⟨sF, evsF, FF, EsF⟩ := own_fldE evF n10
  obtain ⟨bF, gF, -, FvF, AF, gvF⟩ := own_arr evsF n11 n12 (n := 11) rfl (by decide)
  have stF : Ostr s s.heap sF bF 11 gF := ⟨EsF, own_fldI evsF n13, FvF, AF⟩
  have vF0 : gF 0 = .int 118 := gvF 0 _ _ rfl (by decide) n31
  have OF := own_fldI evF n9
  have dDC : mD ≠ mC := OD.ne OC (by decide)
  have dDF : mD ≠ mF := OD.ne OF (by decide)
  have dRC : mR ≠ mC := OR.ne OC (by decide)
  have dRF : mR ≠ mF := OR.ne OF (by decide)
  have dCF : mC ≠ mF := OC.ne OF (by decide)
  obtain ⟨hsets, hown0⟩ := atoms_of _ (rest_1_c_eq ▸ (show rest_1_c.before _ s = true from hrest))
  have n5 := not_v (Cond.before_iff.mp (hsets _ (List.mem_of_getElem? (i := 2) rfl)))
  obtain ⟨cs, ecs⟩ := is_v (Cond.before_iff.mp (hsets _ (List.mem_of_getElem? (i := 1) rfl)))
  have Scs : Sta s s.heap "java/lang/String" "COMPACT_STRINGS" "Z" (.int cs) := Sta.start ecs (Or.inl (hsets _ (List.mem_of_getElem? (i := 0) rfl)))
  obtain ⟨fm, efm, rfm⟩ := isR_v (Cond.before_iff.mp (hsets _ (List.mem_of_getElem? (i := 8) rfl)))
  have Sfm : Sta s s.heap "jdk/internal/util/Preconditions" "SIOOBE_FORMATTER" "Ljava/util/function/BiFunction;" fm := Sta.start efm (Or.inl (hsets _ (List.mem_of_getElem? (i := 7) rfl)))
  have hcs : ¬ (cs = (0 : Int32)) := gotF (Cond.eq_ints ecs (Term.int_eval (0))) n5
  obtain ⟨n, o, h1, h2, h3, _, L, rfl, ⟨rfl, N⟩, hq⟩ := rm0 l s _ hw i0 mD sD bD mR sR bR mC sC bC mF sF bF gD gR gC gF cs fm s.heap Scs hcs Sfm rfm SD ED FD stD vD0 (by simp [own_ver, dDC, dDF]) SR ER FR stR vR0 (by simp [own_ver, dRC, dRF]) SC EC FC stC vC0 (by simp [own_ver]) SF EF FF stF vF0 (by simp [own_ver]) p e ha hc hk s m _ below hf ((Spec.applies_iff_loose hf).mp happ).1 ⟨rfl, State.Warmed39.refl s, rfl⟩ trivial
  refine ⟨n, _, h1, h2, h3, hpost _ _ _ _ _ _ ⟨Cond.after_iff.mpr rfl, Cond.after_iff.mpr (eq_i res_at (Term.int_eval (1)) rfl), trivial⟩ ⟨hq.1, hq.2.1, (hq.2.2.sift fun y hy => Or.inr (N y hy)).mono (by decide) (by decide)⟩⟩
theorem main_1_1 : Claimed_1_1 := comes_1 fun _ _ _ _ _ _ h hF => ⟨h.1, hF⟩
theorem main_1_2 : Claimed_1_2 := comes_1 fun _ _ _ _ _ _ h hF => ⟨h.2.1, hF⟩


end Jvm.Pilot.@@N@@
namespace Jvm.Pilot.@@N@@
open Jvm Jvm.ClassFile Sem Op Lib Jvm.Free Jvm.Stand Jvm.Pilot.@@N@@.Jvm.D
/-! MADE BY PROGRAM (witnessworld.py) out of the Statement's table words and the real class files: 18 classes; the members and pool entries that the words name. The judged class is class 1, her method 1. -/
namespace start1
open Jvm.ClassFile
def u (s : String) : CpInfo := .utf8 (stringToUtf16 s)
/-- a pool by its gaps: so many unusable entries, then the entry; so many at the end -/
def gap : Nat → List CpInfo → List CpInfo
  | 0, r => r
  | n + 1, r => .unusable :: gap n r
def poolList (es : List (Nat × CpInfo)) (last : Nat) : List CpInfo := es.foldr (fun e r => gap e.1 (e.2 :: r)) (gap last [])
def pool (es : List (Nat × CpInfo)) (last : Nat) : Array CpInfo := ⟨poolList es last⟩
def fileOf (pool : Array CpInfo) (this : Nat) (attrs : Array Attribute := #[]) (ms : Array MethodInfo := #[]) (fl : Nat := 33) (sup : Nat := 0) (ifs : Array Nat := #[]) (fds : Array FieldInfo := #[]) : ClassFile where
  minorVersion := 0
  majorVersion := 65
  constantPool := pool
  accessFlags := fl
  thisClass := this
  superClass := sup
  interfaces := ifs
  fields := fds
  methods := ms
  attributes := attrs
def plain (name : String) (sup : Option ClassId) : Class where
  name := name
  kind := .ordinary
  loader := none
  accessFlags := 33
  super := sup
  interfaces := #[]
  cf := none
  fields := #[]
  methods := #[]
  instanceTypes := #[]
  staticTypes := #[]
  resolved := #[]
  callSites := []
  init := .initialized
  statics := none
  mirror := none

def pool0 : Array CpInfo := pool [(5, u "<init>"), (0, u "()V"), (1, .class_ 10), (1, u "java/lang/Object")] 113

def k0m0 : Method := { name := "<init>", desc := "()V", sig := { parameters := [], returnType := none }, accessFlags := 1, code := none }
/-- java/lang/Object -/
def k0 : Class := { plain "java/lang/Object" none with
  accessFlags := 33
  interfaces := #[]
  cf := some (fileOf pool0 8 #[] #[{ accessFlags := 1, nameIndex := 5, descriptorIndex := 6, attributes := #[] }] 33 0 #[] #[])
  fields := #[]
  methods := #[k0m0]
  instanceTypes := #[]
  staticTypes := #[]
  resolved := Array.replicate 124 none
  statics := none }

def pool1 : Array CpInfo := pool [(2, .class_ 4), (1, u "java/lang/Object"), (0, u "<init>"), (0, u "()V"), (0, .fieldref 8 9), (0, .class_ 10), (0, .nameAndType 11 12), (0, u "com/example/lock_lease/locklease/store/TlsParameters$Mode"), (0, u "DISABLE"), (0, u "Lcom/example/lock_lease/locklease/store/TlsParameters$Mode;"), (0, .fieldref 8 14), (0, .nameAndType 15 12), (0, u "REQUIRE"), (0, .fieldref 8 17), (0, .nameAndType 18 12), (0, u "VERIFY_CA"), (0, .fieldref 8 20), (0, .nameAndType 21 12), (0, u "VERIFY_FULL"), (0, .methodref 8 23), (0, .nameAndType 24 25), (0, u "word"), (0, u "()Ljava/lang/String;"), (0, .methodref 27 28), (0, .class_ 29), (0, .nameAndType 30 31), (0, u "java/lang/String"), (0, u "length"), (0, u "()I"), (0, .methodref 27 33), (0, .nameAndType 34 35), (0, u "charAt"), (0, u "(I)C"), (0, .methodref 8 37), (0, .nameAndType 38 39), (0, u "verifiesServer"), (0, u "()Z"), (0, .class_ 41), (0, u "com/example/lock_lease/locklease/store/ModeVerifiesServerPinLaw"), (2, u "law"), (0, u "(I)Z")] 7

def k1m0 : Method := { name := "<init>", desc := "()V", sig := { parameters := [], returnType := none }, accessFlags := 2, code := none }
def k1c1 : Code := { maxStack := 2, maxLocals := 6, code := code, exceptionTable := #[], attributes := #[] }
def k1m1 : Method := { name := "law", desc := "(I)Z", sig := { parameters := [.int], returnType := some .boolean }, accessFlags := 9, code := some k1c1 }
/-- com/example/lock_lease/locklease/store/ModeVerifiesServerPinLaw -/
def k1 : Class := { plain "com/example/lock_lease/locklease/store/ModeVerifiesServerPinLaw" (some 0) with
  accessFlags := 49
  interfaces := #[]
  cf := some (fileOf pool1 40 #[] #[{ accessFlags := 2, nameIndex := 5, descriptorIndex := 6, attributes := #[] }, { accessFlags := 9, nameIndex := 44, descriptorIndex := 45, attributes := #[] }] 49 2 #[] #[])
  fields := #[]
  methods := #[k1m0, k1m1]
  instanceTypes := #[]
  staticTypes := #[]
  resolved := Array.replicate 53 none
  statics := none }

def pool2 : Array CpInfo := pool [(1, .class_ 2), (0, u "java/lang/constant/Constable"), (0, .class_ 4), (0, u "java/lang/Object")] 6

/-- java/lang/constant/Constable -/
def k2 : Class := { plain "java/lang/constant/Constable" (some 0) with
  accessFlags := 1537
  interfaces := #[]
  cf := some (fileOf pool2 1 #[] #[] 1537 3 #[] #[])
  fields := #[]
  methods := #[]
  instanceTypes := #[]
  staticTypes := #[]
  resolved := Array.replicate 11 none
  statics := none }

def pool3 : Array CpInfo := pool [(1, .class_ 2), (0, u "java/lang/Comparable"), (0, .class_ 4), (0, u "java/lang/Object")] 7

/-- java/lang/Comparable -/
def k3 : Class := { plain "java/lang/Comparable" (some 0) with
  accessFlags := 1537
  interfaces := #[]
  cf := some (fileOf pool3 1 #[] #[] 1537 3 #[] #[])
  fields := #[]
  methods := #[]
  instanceTypes := #[]
  staticTypes := #[]
  resolved := Array.replicate 12 none
  statics := none }

def pool4 : Array CpInfo := pool [(1, .class_ 2), (0, u "java/io/Serializable"), (0, .class_ 4), (0, u "java/lang/Object")] 2

/-- java/io/Serializable -/
def k4 : Class := { plain "java/io/Serializable" (some 0) with
  accessFlags := 1537
  interfaces := #[]
  cf := some (fileOf pool4 1 #[] #[] 1537 3 #[] #[])
  fields := #[]
  methods := #[]
  instanceTypes := #[]
  staticTypes := #[]
  resolved := Array.replicate 7 none
  statics := none }

def pool5 : Array CpInfo := pool [(2, .class_ 4), (1, u "java/lang/Enum"), (0, u "name"), (0, u "Ljava/lang/String;"), (2, u "ordinal"), (0, u "I"), (1, .class_ 14), (1, u "java/lang/Object"), (4, u "hash"), (86, .class_ 108), (1, u "java/lang/Enum$EnumDesc"), (2, .class_ 112), (0, u "java/lang/constant/Constable"), (0, .class_ 114), (0, u "java/lang/Comparable"), (0, .class_ 116), (0, u "java/io/Serializable")] 87

/-- java/lang/Enum -/
def k5 : Class := { plain "java/lang/Enum" (some 0) with
  accessFlags := 1057
  interfaces := #[2, 3, 4]
  cf := some (fileOf pool5 2 #[.nestMembers #[106]] #[] 1057 12 #[111, 113, 115] #[{ accessFlags := 18, nameIndex := 5, descriptorIndex := 6, attributes := #[] }, { accessFlags := 18, nameIndex := 9, descriptorIndex := 10, attributes := #[] }, { accessFlags := 2, nameIndex := 19, descriptorIndex := 10, attributes := #[] }])
  fields := #[{ name := "name", type := (.object "java/lang/String"), accessFlags := 18, slot := 0, constantValue := 0 }, { name := "ordinal", type := .int, accessFlags := 18, slot := 1, constantValue := 0 }, { name := "hash", type := .int, accessFlags := 2, slot := 2, constantValue := 0 }]
  methods := #[]
  instanceTypes := #[(.object "java/lang/String"), .int, .int]
  staticTypes := #[]
  resolved := Array.replicate 204 none
  statics := none }

def pool6 : Array CpInfo := pool [(1, .class_ 2), (0, u "com/example/lock_lease/locklease/store/TlsParameters$Mode"), (2, u "DISABLE"), (0, u "Lcom/example/lock_lease/locklease/store/TlsParameters$Mode;"), (2, u "REQUIRE"), (0, .fieldref 1 11), (0, .nameAndType 12 6), (0, u "VERIFY_CA"), (0, .fieldref 1 14), (0, .nameAndType 15 6), (0, u "VERIFY_FULL"), (2, u "$VALUES"), (0, u "[Lcom/example/lock_lease/locklease/store/TlsParameters$Mode;"), (6, .class_ 28), (1, u "java/lang/Enum"), (6, .fieldref 1 36), (0, .nameAndType 37 38), (0, u "word"), (0, u "Ljava/lang/String;"), (26, u "()Ljava/lang/String;"), (0, u "verifiesServer"), (0, u "()Z"), (7, .class_ 76), (0, u "com/example/lock_lease/locklease/store/TlsParameters")] 2

def k6c0 : Code := { maxStack := 1, maxLocals := 1, code := prog_30_method_4_code, exceptionTable := #[], attributes := #[] }
def k6m0 : Method := { name := "word", desc := "()Ljava/lang/String;", sig := { parameters := [], returnType := some (.object "java/lang/String") }, accessFlags := 0, code := some k6c0 }
def k6c1 : Code := { maxStack := 2, maxLocals := 1, code := prog_30_method_5_code, exceptionTable := #[], attributes := #[] }
def k6m1 : Method := { name := "verifiesServer", desc := "()Z", sig := { parameters := [], returnType := some .boolean }, accessFlags := 0, code := some k6c1 }
/-- com/example/lock_lease/locklease/store/TlsParameters$Mode -/
def k6 : Class := { plain "com/example/lock_lease/locklease/store/TlsParameters$Mode" (some 5) with
  accessFlags := 16432
  interfaces := #[]
  cf := some (fileOf pool6 1 #[.nestHost 75] #[{ accessFlags := 0, nameIndex := 37, descriptorIndex := 65, attributes := #[] }, { accessFlags := 0, nameIndex := 66, descriptorIndex := 67, attributes := #[] }] 16432 26 #[] #[{ accessFlags := 16409, nameIndex := 5, descriptorIndex := 6, attributes := #[] }, { accessFlags := 16409, nameIndex := 9, descriptorIndex := 6, attributes := #[] }, { accessFlags := 16409, nameIndex := 12, descriptorIndex := 6, attributes := #[] }, { accessFlags := 16409, nameIndex := 15, descriptorIndex := 6, attributes := #[] }, { accessFlags := 18, nameIndex := 37, descriptorIndex := 38, attributes := #[] }, { accessFlags := 4122, nameIndex := 18, descriptorIndex := 19, attributes := #[] }])
  fields := #[{ name := "DISABLE", type := (.object "com/example/lock_lease/locklease/store/TlsParameters$Mode"), accessFlags := 16409, slot := 0, constantValue := 0 }, { name := "REQUIRE", type := (.object "com/example/lock_lease/locklease/store/TlsParameters$Mode"), accessFlags := 16409, slot := 1, constantValue := 0 }, { name := "VERIFY_CA", type := (.object "com/example/lock_lease/locklease/store/TlsParameters$Mode"), accessFlags := 16409, slot := 2, constantValue := 0 }, { name := "VERIFY_FULL", type := (.object "com/example/lock_lease/locklease/store/TlsParameters$Mode"), accessFlags := 16409, slot := 3, constantValue := 0 }, { name := "word", type := (.object "java/lang/String"), accessFlags := 18, slot := 3, constantValue := 0 }, { name := "$VALUES", type := (.array (.object "com/example/lock_lease/locklease/store/TlsParameters$Mode")), accessFlags := 4122, slot := 4, constantValue := 0 }]
  methods := #[k6m0, k6m1]
  instanceTypes := #[(.object "java/lang/String"), .int, .int, (.object "java/lang/String")]
  staticTypes := #[(.object "com/example/lock_lease/locklease/store/TlsParameters$Mode"), (.object "com/example/lock_lease/locklease/store/TlsParameters$Mode"), (.object "com/example/lock_lease/locklease/store/TlsParameters$Mode"), (.object "com/example/lock_lease/locklease/store/TlsParameters$Mode"), (.array (.object "com/example/lock_lease/locklease/store/TlsParameters$Mode"))]
  resolved := Array.replicate 79 none
  statics := some 0 }

def pool7 : Array CpInfo := pool [(2, .class_ 4), (1, u "java/lang/CharSequence"), (42, .class_ 48), (0, u "java/lang/CharSequence$1CodePointIterator"), (10, .class_ 60), (0, u "java/lang/CharSequence$1CharIterator"), (5, .class_ 67), (0, u "java/lang/Object")] 63

/-- java/lang/CharSequence -/
def k7 : Class := { plain "java/lang/CharSequence" (some 0) with
  accessFlags := 1537
  interfaces := #[]
  cf := some (fileOf pool7 2 #[.nestMembers #[47, 59]] #[] 1537 66 #[] #[])
  fields := #[]
  methods := #[]
  instanceTypes := #[]
  staticTypes := #[]
  resolved := Array.replicate 131 none
  statics := none }

def pool8 : Array CpInfo := pool [(1, .class_ 2), (0, u "java/lang/constant/ConstantDesc"), (0, .class_ 4), (0, u "java/lang/Object")] 32

/-- java/lang/constant/ConstantDesc -/
def k8 : Class := { plain "java/lang/constant/ConstantDesc" (some 0) with
  accessFlags := 1537
  interfaces := #[]
  cf := some (fileOf pool8 1 #[] #[] 1537 3 #[] #[])
  fields := #[]
  methods := #[]
  instanceTypes := #[]
  staticTypes := #[]
  resolved := Array.replicate 37 none
  statics := none }

def pool9 : Array CpInfo := pool [(2, .class_ 4), (1, u "java/lang/Object"), (0, u "<init>"), (0, u "()V"), (2, .fieldref 10 11), (0, .class_ 12), (0, .nameAndType 13 14), (0, u "java/lang/String"), (0, u "value"), (0, u "[B"), (0, .fieldref 10 16), (0, .nameAndType 17 18), (0, u "coder"), (0, u "B"), (2, u "hash"), (0, u "I"), (2, u "hashIsZero"), (0, u "Z"), (11, .fieldref 10 39), (0, .nameAndType 40 26), (0, u "COMPACT_STRINGS"), (66, .class_ 109), (1, u "java/lang/StringLatin1"), (32, u "()Z"), (191, u "()I"), (0, .methodref 10 336), (0, .nameAndType 17 337), (0, u "()B"), (25, u "([BI)C"), (27, u "(II)V"), (35, u "(I)C"), (64, .methodref 10 493), (0, .nameAndType 494 142), (0, u "isLatin1"), (0, .methodref 107 496), (0, .nameAndType 497 363), (0, u "charAt"), (3, u "checkIndex"), (5, u "length"), (67, .class_ 576), (0, u "java/lang/CharSequence"), (22, u "CASE_INSENSITIVE_ORDER"), (0, u "Ljava/util/Comparator;"), (452, .fieldref 1054 1055), (0, .class_ 1056), (0, .nameAndType 1057 1058), (0, u "jdk/internal/util/Preconditions"), (0, u "SIOOBE_FORMATTER"), (0, u "Ljava/util/function/BiFunction;"), (0, .methodref 1054 1060), (0, .nameAndType 501 1061), (0, u "(IILjava/util/function/BiFunction;)I"), (39, u "serialPersistentFields"), (0, u "[Ljava/io/ObjectStreamField;"), (0, .class_ 1104), (0, u "java/lang/String$CaseInsensitiveComparator"), (1, .class_ 1107), (0, u "java/io/Serializable"), (0, .class_ 1109), (0, u "java/lang/Comparable"), (0, .class_ 1111), (0, u "java/lang/constant/Constable"), (0, .class_ 1113), (0, u "java/lang/constant/ConstantDesc"), (2, u "serialVersionUID"), (0, u "J"), (3, u "REPL"), (0, u "C"), (2, u "LATIN1"), (1, u "UTF16")] 323

def k9m0 : Method := { name := "<init>", desc := "()V", sig := { parameters := [], returnType := none }, accessFlags := 1, code := none }
def k9c1 : Code := { maxStack := 2, maxLocals := 1, code := jdk_42_method_54_code, exceptionTable := #[], attributes := #[] }
def k9m1 : Method := { name := "length", desc := "()I", sig := { parameters := [], returnType := some .int }, accessFlags := 1, code := some k9c1 }
def k9c2 : Code := { maxStack := 2, maxLocals := 2, code := jdk_42_method_56_code, exceptionTable := #[], attributes := #[] }
def k9m2 : Method := { name := "charAt", desc := "(I)C", sig := { parameters := [.int], returnType := some .char }, accessFlags := 1, code := some k9c2 }
def k9c3 : Code := { maxStack := 1, maxLocals := 1, code := jdk_42_method_152_code, exceptionTable := #[], attributes := #[] }
def k9m3 : Method := { name := "coder", desc := "()B", sig := { parameters := [], returnType := some .byte }, accessFlags := 0, code := some k9c3 }
def k9c4 : Code := { maxStack := 1, maxLocals := 1, code := jdk_42_method_154_code, exceptionTable := #[], attributes := #[] }
def k9m4 : Method := { name := "isLatin1", desc := "()Z", sig := { parameters := [], returnType := some .boolean }, accessFlags := 0, code := some k9c4 }
def k9c5 : Code := { maxStack := 3, maxLocals := 2, code := jdk_42_method_155_code, exceptionTable := #[], attributes := #[] }
def k9m5 : Method := { name := "checkIndex", desc := "(II)V", sig := { parameters := [.int, .int], returnType := none }, accessFlags := 8, code := some k9c5 }
/-- java/lang/String -/
def k9 : Class := { plain "java/lang/String" (some 0) with
  accessFlags := 49
  interfaces := #[4, 3, 7, 2, 8]
  cf := some (fileOf pool9 10 #[.nestMembers #[1103]] #[{ accessFlags := 1, nameIndex := 5, descriptorIndex := 6, attributes := #[] }, { accessFlags := 1, nameIndex := 507, descriptorIndex := 334, attributes := #[] }, { accessFlags := 1, nameIndex := 497, descriptorIndex := 427, attributes := #[] }, { accessFlags := 0, nameIndex := 17, descriptorIndex := 337, attributes := #[] }, { accessFlags := 0, nameIndex := 494, descriptorIndex := 142, attributes := #[] }, { accessFlags := 8, nameIndex := 501, descriptorIndex := 391, attributes := #[] }] 49 2 #[1106, 1108, 575, 1110, 1112] #[{ accessFlags := 18, nameIndex := 13, descriptorIndex := 14, attributes := #[] }, { accessFlags := 18, nameIndex := 17, descriptorIndex := 18, attributes := #[] }, { accessFlags := 2, nameIndex := 21, descriptorIndex := 22, attributes := #[] }, { accessFlags := 2, nameIndex := 25, descriptorIndex := 26, attributes := #[] }, { accessFlags := 26, nameIndex := 1116, descriptorIndex := 1117, attributes := #[] }, { accessFlags := 24, nameIndex := 40, descriptorIndex := 26, attributes := #[] }, { accessFlags := 26, nameIndex := 1101, descriptorIndex := 1102, attributes := #[] }, { accessFlags := 26, nameIndex := 1121, descriptorIndex := 1122, attributes := #[] }, { accessFlags := 25, nameIndex := 599, descriptorIndex := 600, attributes := #[] }, { accessFlags := 24, nameIndex := 1125, descriptorIndex := 18, attributes := #[] }, { accessFlags := 24, nameIndex := 1127, descriptorIndex := 18, attributes := #[] }])
  fields := #[{ name := "value", type := (.array .byte), accessFlags := 18, slot := 0, constantValue := 0 }, { name := "coder", type := .byte, accessFlags := 18, slot := 1, constantValue := 0 }, { name := "hash", type := .int, accessFlags := 2, slot := 2, constantValue := 0 }, { name := "hashIsZero", type := .boolean, accessFlags := 2, slot := 3, constantValue := 0 }, { name := "serialVersionUID", type := .long, accessFlags := 26, slot := 0, constantValue := 0 }, { name := "COMPACT_STRINGS", type := .boolean, accessFlags := 24, slot := 1, constantValue := 0 }, { name := "serialPersistentFields", type := (.array (.object "java/io/ObjectStreamField")), accessFlags := 26, slot := 2, constantValue := 0 }, { name := "REPL", type := .char, accessFlags := 26, slot := 3, constantValue := 0 }, { name := "CASE_INSENSITIVE_ORDER", type := (.object "java/util/Comparator"), accessFlags := 25, slot := 4, constantValue := 0 }, { name := "LATIN1", type := .byte, accessFlags := 24, slot := 5, constantValue := 0 }, { name := "UTF16", type := .byte, accessFlags := 24, slot := 6, constantValue := 0 }]
  methods := #[k9m0, k9m1, k9m2, k9m3, k9m4, k9m5]
  instanceTypes := #[(.array .byte), .byte, .int, .boolean]
  staticTypes := #[.long, .boolean, (.array (.object "java/io/ObjectStreamField")), .char, (.object "java/util/Comparator"), .byte, .byte]
  resolved := Array.replicate 1451 none
  statics := some 1 }

def pool10 : Array CpInfo := pool [(1, .class_ 2), (0, u "java/lang/String"), (1, .class_ 6), (1, u "java/lang/Object"), (0, u "<init>"), (0, u "()V"), (0, .methodref 1 10), (0, .nameAndType 11 12), (0, u "checkIndex"), (0, u "(II)V"), (1, .class_ 16), (1, u "java/lang/StringLatin1"), (36, u "([BI)C"), (67, u "$assertionsDisabled"), (0, u "Z"), (98, .class_ 223), (1, u "java/lang/StringLatin1$LinesSpliterator"), (28, u "charAt"), (137, .class_ 391), (0, u "java/lang/StringLatin1$CharsSpliterator")] 3

def k10m0 : Method := { name := "<init>", desc := "()V", sig := { parameters := [], returnType := none }, accessFlags := 0, code := none }
def k10c1 : Code := { maxStack := 2, maxLocals := 2, code := jdk_43_method_2_code, exceptionTable := #[], attributes := #[] }
def k10m1 : Method := { name := "charAt", desc := "([BI)C", sig := { parameters := [(.array .byte), .int], returnType := some .char }, accessFlags := 9, code := some k10c1 }
/-- java/lang/StringLatin1 -/
def k10 : Class := { plain "java/lang/StringLatin1" (some 0) with
  accessFlags := 48
  interfaces := #[]
  cf := some (fileOf pool10 14 #[.nestMembers #[390, 221]] #[{ accessFlags := 0, nameIndex := 7, descriptorIndex := 8, attributes := #[] }, { accessFlags := 9, nameIndex := 252, descriptorIndex := 53, attributes := #[] }] 48 4 #[] #[{ accessFlags := 4120, nameIndex := 121, descriptorIndex := 122, attributes := #[] }])
  fields := #[{ name := "$assertionsDisabled", type := .boolean, accessFlags := 4120, slot := 0, constantValue := 0 }]
  methods := #[k10m0, k10m1]
  instanceTypes := #[]
  staticTypes := #[.boolean]
  resolved := Array.replicate 395 none
  statics := none }

def pool11 : Array CpInfo := pool [(2, .class_ 4), (1, u "java/lang/Object"), (0, u "<init>"), (0, u "()V"), (17, .class_ 26), (1, u "jdk/internal/util/Preconditions"), (6, u "checkIndex"), (21, .class_ 56), (0, u "jdk/internal/util/Preconditions$4"), (57, .class_ 115), (0, u "jdk/internal/util/Preconditions$1"), (7, u "SIOOBE_FORMATTER"), (0, u "Ljava/util/function/BiFunction;"), (0, .class_ 126), (0, u "jdk/internal/util/Preconditions$2"), (3, u "AIOOBE_FORMATTER"), (0, .class_ 132), (0, u "jdk/internal/util/Preconditions$3"), (3, u "IOOBE_FORMATTER"), (41, u "(IILjava/util/function/BiFunction;)I")] 15

def k11m0 : Method := { name := "<init>", desc := "()V", sig := { parameters := [], returnType := none }, accessFlags := 1, code := none }
def k11c1 : Code := { maxStack := 3, maxLocals := 3, code := jdk_41_method_11_code, exceptionTable := #[], attributes := #[] }
def k11m1 : Method := { name := "checkIndex", desc := "(IILjava/util/function/BiFunction;)I", sig := { parameters := [.int, .int, (.object "java/util/function/BiFunction")], returnType := some .int }, accessFlags := 9, code := some k11c1 }
/-- jdk/internal/util/Preconditions -/
def k11 : Class := { plain "jdk/internal/util/Preconditions" (some 0) with
  accessFlags := 33
  interfaces := #[]
  cf := some (fileOf pool11 24 #[.nestMembers #[55, 131, 125, 114]] #[{ accessFlags := 1, nameIndex := 5, descriptorIndex := 6, attributes := #[] }, { accessFlags := 9, nameIndex := 33, descriptorIndex := 178, attributes := #[] }] 33 2 #[] #[{ accessFlags := 25, nameIndex := 123, descriptorIndex := 124, attributes := #[] }, { accessFlags := 25, nameIndex := 130, descriptorIndex := 124, attributes := #[] }, { accessFlags := 25, nameIndex := 136, descriptorIndex := 124, attributes := #[] }])
  fields := #[{ name := "SIOOBE_FORMATTER", type := (.object "java/util/function/BiFunction"), accessFlags := 25, slot := 0, constantValue := 0 }, { name := "AIOOBE_FORMATTER", type := (.object "java/util/function/BiFunction"), accessFlags := 25, slot := 1, constantValue := 0 }, { name := "IOOBE_FORMATTER", type := (.object "java/util/function/BiFunction"), accessFlags := 25, slot := 2, constantValue := 0 }]
  methods := #[k11m0, k11m1]
  instanceTypes := #[]
  staticTypes := #[(.object "java/util/function/BiFunction"), (.object "java/util/function/BiFunction"), (.object "java/util/function/BiFunction")]
  resolved := Array.replicate 194 none
  statics := some 2 }

def pool12 : Array CpInfo := pool [(9, u "<init>"), (6, .class_ 18), (1, u "java/lang/Object"), (0, u "()V"), (1, .class_ 23), (1, u "jdk/internal/util/ArraysSupport"), (0, u "LOG2_ARRAY_LONG_INDEX_SCALE"), (0, u "I"), (2, u "U"), (0, u "Ljdk/internal/misc/Unsafe;"), (8, u "BIG_ENDIAN"), (0, u "Z"), (8, u "LOG2_BYTE_BIT_SIZE"), (4, u "LOG2_ARRAY_INT_INDEX_SCALE"), (54, u "JLA"), (0, u "Ljdk/internal/access/JavaLangAccess;"), (11, u "LOG2_ARRAY_BOOLEAN_INDEX_SCALE"), (9, u "LOG2_ARRAY_BYTE_INDEX_SCALE"), (5, u "LOG2_ARRAY_CHAR_INDEX_SCALE"), (5, u "LOG2_ARRAY_SHORT_INDEX_SCALE"), (18, u "LOG2_ARRAY_FLOAT_INDEX_SCALE"), (24, u "LOG2_ARRAY_DOUBLE_INDEX_SCALE"), (89, u "T_BOOLEAN"), (2, u "T_CHAR"), (1, u "T_FLOAT"), (1, u "T_DOUBLE"), (1, u "T_BYTE"), (1, u "T_SHORT"), (1, u "T_INT"), (1, u "T_LONG"), (1, u "SOFT_MAX_ARRAY_LENGTH")] 83

def k12m0 : Method := { name := "<init>", desc := "()V", sig := { parameters := [], returnType := none }, accessFlags := 2, code := none }
/-- jdk/internal/util/ArraysSupport -/
def k12 : Class := { plain "jdk/internal/util/ArraysSupport" (some 0) with
  accessFlags := 33
  interfaces := #[]
  cf := some (fileOf pool12 21 #[] #[{ accessFlags := 2, nameIndex := 9, descriptorIndex := 19, attributes := #[] }] 33 16 #[] #[{ accessFlags := 24, nameIndex := 28, descriptorIndex := 29, attributes := #[] }, { accessFlags := 26, nameIndex := 38, descriptorIndex := 39, attributes := #[] }, { accessFlags := 25, nameIndex := 121, descriptorIndex := 25, attributes := #[] }, { accessFlags := 25, nameIndex := 131, descriptorIndex := 25, attributes := #[] }, { accessFlags := 25, nameIndex := 137, descriptorIndex := 25, attributes := #[] }, { accessFlags := 25, nameIndex := 143, descriptorIndex := 25, attributes := #[] }, { accessFlags := 25, nameIndex := 53, descriptorIndex := 25, attributes := #[] }, { accessFlags := 25, nameIndex := 24, descriptorIndex := 25, attributes := #[] }, { accessFlags := 25, nameIndex := 162, descriptorIndex := 25, attributes := #[] }, { accessFlags := 25, nameIndex := 187, descriptorIndex := 25, attributes := #[] }, { accessFlags := 26, nameIndex := 48, descriptorIndex := 25, attributes := #[] }, { accessFlags := 25, nameIndex := 277, descriptorIndex := 25, attributes := #[] }, { accessFlags := 25, nameIndex := 280, descriptorIndex := 25, attributes := #[] }, { accessFlags := 25, nameIndex := 282, descriptorIndex := 25, attributes := #[] }, { accessFlags := 25, nameIndex := 284, descriptorIndex := 25, attributes := #[] }, { accessFlags := 25, nameIndex := 286, descriptorIndex := 25, attributes := #[] }, { accessFlags := 25, nameIndex := 288, descriptorIndex := 25, attributes := #[] }, { accessFlags := 25, nameIndex := 290, descriptorIndex := 25, attributes := #[] }, { accessFlags := 25, nameIndex := 292, descriptorIndex := 25, attributes := #[] }, { accessFlags := 26, nameIndex := 108, descriptorIndex := 109, attributes := #[] }, { accessFlags := 25, nameIndex := 294, descriptorIndex := 25, attributes := #[] }])
  fields := #[{ name := "U", type := (.object "jdk/internal/misc/Unsafe"), accessFlags := 24, slot := 0, constantValue := 0 }, { name := "BIG_ENDIAN", type := .boolean, accessFlags := 26, slot := 1, constantValue := 0 }, { name := "LOG2_ARRAY_BOOLEAN_INDEX_SCALE", type := .int, accessFlags := 25, slot := 2, constantValue := 0 }, { name := "LOG2_ARRAY_BYTE_INDEX_SCALE", type := .int, accessFlags := 25, slot := 3, constantValue := 0 }, { name := "LOG2_ARRAY_CHAR_INDEX_SCALE", type := .int, accessFlags := 25, slot := 4, constantValue := 0 }, { name := "LOG2_ARRAY_SHORT_INDEX_SCALE", type := .int, accessFlags := 25, slot := 5, constantValue := 0 }, { name := "LOG2_ARRAY_INT_INDEX_SCALE", type := .int, accessFlags := 25, slot := 6, constantValue := 0 }, { name := "LOG2_ARRAY_LONG_INDEX_SCALE", type := .int, accessFlags := 25, slot := 7, constantValue := 0 }, { name := "LOG2_ARRAY_FLOAT_INDEX_SCALE", type := .int, accessFlags := 25, slot := 8, constantValue := 0 }, { name := "LOG2_ARRAY_DOUBLE_INDEX_SCALE", type := .int, accessFlags := 25, slot := 9, constantValue := 0 }, { name := "LOG2_BYTE_BIT_SIZE", type := .int, accessFlags := 26, slot := 10, constantValue := 0 }, { name := "T_BOOLEAN", type := .int, accessFlags := 25, slot := 11, constantValue := 0 }, { name := "T_CHAR", type := .int, accessFlags := 25, slot := 12, constantValue := 0 }, { name := "T_FLOAT", type := .int, accessFlags := 25, slot := 13, constantValue := 0 }, { name := "T_DOUBLE", type := .int, accessFlags := 25, slot := 14, constantValue := 0 }, { name := "T_BYTE", type := .int, accessFlags := 25, slot := 15, constantValue := 0 }, { name := "T_SHORT", type := .int, accessFlags := 25, slot := 16, constantValue := 0 }, { name := "T_INT", type := .int, accessFlags := 25, slot := 17, constantValue := 0 }, { name := "T_LONG", type := .int, accessFlags := 25, slot := 18, constantValue := 0 }, { name := "JLA", type := (.object "jdk/internal/access/JavaLangAccess"), accessFlags := 26, slot := 19, constantValue := 0 }, { name := "SOFT_MAX_ARRAY_LENGTH", type := .int, accessFlags := 25, slot := 20, constantValue := 0 }]
  methods := #[k12m0]
  instanceTypes := #[]
  staticTypes := #[(.object "jdk/internal/misc/Unsafe"), .boolean, .int, .int, .int, .int, .int, .int, .int, .int, .int, .int, .int, .int, .int, .int, .int, .int, .int, (.object "jdk/internal/access/JavaLangAccess"), .int]
  resolved := Array.replicate 378 none
  statics := none }

def pool13 : Array CpInfo := pool [(1, u "java/lang/Cloneable"), (0, .class_ 1), (0, u "java/lang/Object"), (0, .class_ 3)] 3

/-- java/lang/Cloneable -/
def k13 : Class := { plain "java/lang/Cloneable" (some 0) with
  accessFlags := 1537
  interfaces := #[]
  cf := some (fileOf pool13 2 #[] #[] 1537 4 #[] #[])
  fields := #[]
  methods := #[]
  instanceTypes := #[]
  staticTypes := #[]
  resolved := Array.replicate 8 none
  statics := none }

/-- the primitive byte -/
def k14 : Class := { plain "byte" none with kind := .primitive 'B', accessFlags := 0x411 }
/-- [B -/
def k15 : Class := { plain "[B" (some 0) with kind := .array 14 .byte, interfaces := #[13, 4], accessFlags := 1041 }

/-- the primitive int -/
def k16 : Class := { plain "int" none with kind := .primitive 'I', accessFlags := 0x411 }
/-- [I -/
def k17 : Class := { plain "[I" (some 0) with kind := .array 16 .int, interfaces := #[13, 4], accessFlags := 1041 }

def heap : Heap := #[{ cls := 6, slots := #[.ref 5, .ref 8, .ref 11, .ref 14, .null], vm := .statics 6 },
  { cls := 9, slots := #[.long 0, .int 1, .null, .int 0, .null, .int 0, .int 0], vm := .statics 9 },
  { cls := 11, slots := #[.null, .null, .null], vm := .statics 11 },
  { cls := 15, slots := #[.int 100, .int 105, .int 115, .int 97, .int 98, .int 108, .int 101], vm := .none },
  { cls := 9, slots := #[.ref 3, .int 0, .int 0, .int 0], vm := .none },
  { cls := 6, slots := #[.null, .int 0, .int 0, .ref 4], vm := .none },
  { cls := 15, slots := #[.int 114, .int 101, .int 113, .int 117, .int 105, .int 114, .int 101], vm := .none },
  { cls := 9, slots := #[.ref 6, .int 0, .int 0, .int 0], vm := .none },
  { cls := 6, slots := #[.null, .int 1, .int 0, .ref 7], vm := .none },
  { cls := 15, slots := #[.int 118, .int 101, .int 114, .int 105, .int 102, .int 121, .int 45, .int 99, .int 97], vm := .none },
  { cls := 9, slots := #[.ref 9, .int 0, .int 0, .int 0], vm := .none },
  { cls := 6, slots := #[.null, .int 2, .int 0, .ref 10], vm := .none },
  { cls := 15, slots := #[.int 118, .int 101, .int 114, .int 105, .int 102, .int 121, .int 45, .int 102, .int 117, .int 108, .int 108], vm := .none },
  { cls := 9, slots := #[.ref 12, .int 0, .int 0, .int 0], vm := .none },
  { cls := 6, slots := #[.null, .int 3, .int 0, .ref 13], vm := .none }]
def classes : Array Class := #[k0, k1, k2, k3, k4, k5, k6, k7, k8, k9, k10, k11, k12, k13, k14, k15, k16, k17]
def interned : List (Array UInt16 × Addr) := []
def slotsUsed : Nat := 81
def theMethod : MethodId := ⟨1, 1⟩
def args0 : Array Value := #[.int 6]
def aboutOver (below : List Frame) : State where
  vm := { classes := classes, interned := interned.toArray }
  heap := heap
  slotsUsed := slotsUsed
  threads := #[{ frames := .invoking theMethod args0 :: below }]
def below0 : List Frame := [.native { method := ⟨0, 0⟩, args := #[] }]
def about1 : State := aboutOver below0
def p0 : Program := .bare "" "" ""
def e0 : Env := launch0.env 0 0 0
theorem w_frames : about1.frames = Frame.invoking theMethod args0 :: below0 := rfl
set_option maxRecDepth 65536 in
theorem w_args : argsFit about1.vm theMethod args0 = true := by decide +kernel
set_option maxRecDepth 65536 in
theorem w_heap : heapFits about1 = true := by decide +kernel
set_option maxRecDepth 65536 in
theorem w_runnable : about1.curStatus? = some .runnable := by decide +kernel
set_option maxRecDepth 65536 in
theorem w_alone : about1.alone = true := by decide +kernel
set_option maxRecDepth 65536 in
theorem w_named : about1.methodNamed? x = some theMethod := by decide +kernel
set_option maxRecDepth 65536 in
theorem w_hears : about1.hears theMethod below0 = true := by decide +kernel
set_option maxRecDepth 65536 in
theorem w_ripe : about1.ripe theMethod args0 below0 = true := by decide +kernel
theorem w_running : about1.status = .running := rfl
set_option maxRecDepth 65536 in
theorem w_room : about1.hasRoom e0.platform room_1 = true :=
  launch0.hasRoom_least _ room_1 (by decide +kernel) (by decide +kernel) (by decide +kernel) (by decide +kernel) (by decide +kernel) (by decide +kernel)
theorem allAtoms_all (ts : List Jvm.Cond) (a : Array Jvm.Value) (st : Jvm.State) : (allAtoms ts).before a st = ts.all (fun c => c.before a st) := by
  induction ts with
  | nil => rfl
  | cons c t ih =>
    show (Jvm.Cond.and c (allAtoms t)).before a st = _
    rw [Jvm.Cond.before_and, ih, List.all_cons]
def words1 : List Jvm.Cond := Jvm.Cond.code x code maxLocals ret :: tables_1
/-- a 'code' word, met by the world's own term for the bytes: nothing is compared byte by byte -/
theorem code_word {y : MethodName} {bytes : ByteArray} {mx : Nat} {rt : Option FieldType} {a : Array Value} {s : State} {m : MethodId} {meth : Method} {c : Code} (h1 : s.methodNamed? y = some m) (h2 : s.vm.method? m = some meth) (h3 : meth.code = some c) (h4 : c.code = bytes)
    (h5 : (c.maxLocals == mx && c.exceptionTable.isEmpty && decide (c.maxStack ≤ mostOperands) && decide (meth.sig.returnType = rt) && !meth.locks && decide (parseMethodDescriptor y.desc = some meth.sig)) = true) : (Jvm.Cond.code y bytes mx rt).before a s = true := by
  simp only [Bool.and_eq_true, beq_iff_eq, Bool.not_eq_true', decide_eq_true_eq] at h5
  obtain ⟨⟨⟨⟨⟨g1, g2⟩, g3⟩, g4⟩, g5⟩, g6⟩ := h5
  simp [Cond.before, Cond.holds, Cond.value, h1, h2, h3, h4, g1, g2, g3, g4, g5, g6]
def isCode : Jvm.Cond → Bool
  | .code _ _ _ _ => true
  | _ => false
theorem all_split {L : List Jvm.Cond} {P : Jvm.Cond → Bool} (h1 : L.all (fun c => isCode c || P c) = true) (h2 : ∀ c ∈ L.filter isCode, P c = true) : L.all P = true := by
  refine List.all_eq_true.mpr fun c hc => ?_
  have h := List.all_eq_true.mp h1 c hc
  rcases Bool.eq_false_or_eq_true (isCode c) with hi | hi
  · exact h2 c (List.mem_filter.mpr ⟨hc, hi⟩)
  · simpa [hi] using h
set_option maxRecDepth 65536 in
theorem w_c0 : (Jvm.Cond.code x code maxLocals ret).before args0 about1 = true := code_word (m := ⟨1, 1⟩) (meth := k1m1) (c := k1c1) (by decide +kernel) rfl rfl rfl (by decide +kernel)
set_option maxRecDepth 65536 in
theorem w_c1 : (Jvm.Cond.code ({ cls := "com/example/lock_lease/locklease/store/TlsParameters$Mode", name := "word", desc := "()Ljava/lang/String;" } : Jvm.MethodName) prog_30_method_4_code (1 : Nat) (Option.some (Jvm.ClassFile.FieldType.object "java/lang/String"))).before args0 about1 = true := code_word (m := ⟨6, 0⟩) (meth := k6m0) (c := k6c0) (by decide +kernel) rfl rfl rfl (by decide +kernel)
set_option maxRecDepth 65536 in
theorem w_c2 : (Jvm.Cond.code ({ cls := "java/lang/String", name := "length", desc := "()I" } : Jvm.MethodName) jdk_42_method_54_code (1 : Nat) (Option.some Jvm.ClassFile.FieldType.int)).before args0 about1 = true := code_word (m := ⟨9, 1⟩) (meth := k9m1) (c := k9c1) (by decide +kernel) rfl rfl rfl (by decide +kernel)
set_option maxRecDepth 65536 in
theorem w_c3 : (Jvm.Cond.code ({ cls := "java/lang/String", name := "coder", desc := "()B" } : Jvm.MethodName) jdk_42_method_152_code (1 : Nat) (Option.some Jvm.ClassFile.FieldType.byte)).before args0 about1 = true := code_word (m := ⟨9, 3⟩) (meth := k9m3) (c := k9c3) (by decide +kernel) rfl rfl rfl (by decide +kernel)
set_option maxRecDepth 65536 in
theorem w_c4 : (Jvm.Cond.code ({ cls := "java/lang/String", name := "charAt", desc := "(I)C" } : Jvm.MethodName) jdk_42_method_56_code (2 : Nat) (Option.some Jvm.ClassFile.FieldType.char)).before args0 about1 = true := code_word (m := ⟨9, 2⟩) (meth := k9m2) (c := k9c2) (by decide +kernel) rfl rfl rfl (by decide +kernel)
set_option maxRecDepth 65536 in
theorem w_c5 : (Jvm.Cond.code ({ cls := "java/lang/String", name := "isLatin1", desc := "()Z" } : Jvm.MethodName) jdk_42_method_154_code (1 : Nat) (Option.some Jvm.ClassFile.FieldType.boolean)).before args0 about1 = true := code_word (m := ⟨9, 4⟩) (meth := k9m4) (c := k9c4) (by decide +kernel) rfl rfl rfl (by decide +kernel)
set_option maxRecDepth 65536 in
theorem w_c6 : (Jvm.Cond.code ({ cls := "java/lang/StringLatin1", name := "charAt", desc := "([BI)C" } : Jvm.MethodName) jdk_43_method_2_code (2 : Nat) (Option.some Jvm.ClassFile.FieldType.char)).before args0 about1 = true := code_word (m := ⟨10, 1⟩) (meth := k10m1) (c := k10c1) (by decide +kernel) rfl rfl rfl (by decide +kernel)
set_option maxRecDepth 65536 in
theorem w_c7 : (Jvm.Cond.code ({ cls := "java/lang/String", name := "checkIndex", desc := "(II)V" } : Jvm.MethodName) jdk_42_method_155_code (2 : Nat) (Option.none : Option Jvm.ClassFile.FieldType)).before args0 about1 = true := code_word (m := ⟨9, 5⟩) (meth := k9m5) (c := k9c5) (by decide +kernel) rfl rfl rfl (by decide +kernel)
set_option maxRecDepth 65536 in
theorem w_c8 : (Jvm.Cond.code ({ cls := "jdk/internal/util/Preconditions", name := "checkIndex", desc := "(IILjava/util/function/BiFunction;)I" } : Jvm.MethodName) jdk_41_method_11_code (3 : Nat) (Option.some Jvm.ClassFile.FieldType.int)).before args0 about1 = true := code_word (m := ⟨11, 1⟩) (meth := k11m1) (c := k11c1) (by decide +kernel) rfl rfl rfl (by decide +kernel)
set_option maxRecDepth 65536 in
theorem w_c9 : (Jvm.Cond.code ({ cls := "com/example/lock_lease/locklease/store/TlsParameters$Mode", name := "verifiesServer", desc := "()Z" } : Jvm.MethodName) prog_30_method_5_code (1 : Nat) (Option.some Jvm.ClassFile.FieldType.boolean)).before args0 about1 = true := code_word (m := ⟨6, 1⟩) (meth := k6m1) (c := k6c1) (by decide +kernel) rfl rfl rfl (by decide +kernel)
def codes1 : List Jvm.Cond := [Jvm.Cond.code x code maxLocals ret, Jvm.Cond.code ({ cls := "com/example/lock_lease/locklease/store/TlsParameters$Mode", name := "word", desc := "()Ljava/lang/String;" } : Jvm.MethodName) prog_30_method_4_code (1 : Nat) (Option.some (Jvm.ClassFile.FieldType.object "java/lang/String")), Jvm.Cond.code ({ cls := "java/lang/String", name := "length", desc := "()I" } : Jvm.MethodName) jdk_42_method_54_code (1 : Nat) (Option.some Jvm.ClassFile.FieldType.int), Jvm.Cond.code ({ cls := "java/lang/String", name := "coder", desc := "()B" } : Jvm.MethodName) jdk_42_method_152_code (1 : Nat) (Option.some Jvm.ClassFile.FieldType.byte), Jvm.Cond.code ({ cls := "java/lang/String", name := "charAt", desc := "(I)C" } : Jvm.MethodName) jdk_42_method_56_code (2 : Nat) (Option.some Jvm.ClassFile.FieldType.char), Jvm.Cond.code ({ cls := "java/lang/String", name := "isLatin1", desc := "()Z" } : Jvm.MethodName) jdk_42_method_154_code (1 : Nat) (Option.some Jvm.ClassFile.FieldType.boolean), Jvm.Cond.code ({ cls := "java/lang/StringLatin1", name := "charAt", desc := "([BI)C" } : Jvm.MethodName) jdk_43_method_2_code (2 : Nat) (Option.some Jvm.ClassFile.FieldType.char), Jvm.Cond.code ({ cls := "java/lang/String", name := "checkIndex", desc := "(II)V" } : Jvm.MethodName) jdk_42_method_155_code (2 : Nat) (Option.none : Option Jvm.ClassFile.FieldType), Jvm.Cond.code ({ cls := "jdk/internal/util/Preconditions", name := "checkIndex", desc := "(IILjava/util/function/BiFunction;)I" } : Jvm.MethodName) jdk_41_method_11_code (3 : Nat) (Option.some Jvm.ClassFile.FieldType.int), Jvm.Cond.code ({ cls := "com/example/lock_lease/locklease/store/TlsParameters$Mode", name := "verifiesServer", desc := "()Z" } : Jvm.MethodName) prog_30_method_5_code (1 : Nat) (Option.some Jvm.ClassFile.FieldType.boolean)]
set_option maxRecDepth 65536 in
theorem codes_eq : words1.filter isCode = codes1 := rfl
theorem w_codes : ∀ c ∈ words1.filter isCode, c.before args0 about1 = true := by
  rw [codes_eq]
  intro c hc
  simp only [codes1, List.mem_cons, List.not_mem_nil, or_false] at hc
  rcases hc with rfl | rfl | rfl | rfl | rfl | rfl | rfl | rfl | rfl | rfl
  · exact w_c0
  · exact w_c1
  · exact w_c2
  · exact w_c3
  · exact w_c4
  · exact w_c5
  · exact w_c6
  · exact w_c7
  · exact w_c8
  · exact w_c9
set_option maxRecDepth 65536 in
theorem w_t1 : (words1.take 24).all (fun c => isCode c || c.before args0 about1) = true := by decide +kernel
set_option maxRecDepth 65536 in
theorem w_t2 : ((words1.drop 24).take 24).all (fun c => isCode c || c.before args0 about1) = true := by decide +kernel
set_option maxRecDepth 65536 in
theorem w_t3 : ((words1.drop 24).drop 24).all (fun c => isCode c || c.before args0 about1) = true := by decide +kernel
theorem w_tables : (allAtoms (Jvm.Cond.code x code maxLocals ret :: tables_1)).before args0 about1 = true := by
  rw [allAtoms_all]
  show words1.all (fun c => c.before args0 about1) = true
  refine all_split ?_ w_codes
  rw [← List.take_append_drop 24 words1, List.all_append, w_t1, ← List.take_append_drop 24 (words1.drop 24), List.all_append, w_t2, w_t3]
  rfl
set_option maxRecDepth 65536 in
theorem w_rest : rest_1_c.before args0 about1 = true := by decide +kernel
set_option maxRecDepth 65536 in
theorem w_case : (Jvm.Cond.and given_1 narrow_1).before args0 about1 = true := by decide +kernel
theorem w_applies : (headSpec (Jvm.Cond.code x code maxLocals ret :: tables_1) room_1).applies x e0.platform about1 = true :=
  (Spec.applies_iff w_frames).mpr ⟨w_running, w_runnable, w_alone, w_named, w_hears, w_ripe, w_room, w_tables⟩
theorem atStart : AtStart classFile x code maxLocals ret World_1 tables_1 room_1 Calls_1 rest_1 Pre_1 launch0 p0 e0 about1 theMethod args0 below0 :=
  ⟨lists_1, trivial, launch0.admits_env _ _ _, launch0.least_env, fairChoices_fair.cas, fairChoices_fair.clock, w_frames, w_args, w_heap, w_applies, trivial, w_rest, w_case⟩
end start1
theorem witness_1 : WitnessClaimed_1 := ⟨start1.p0, start1.e0, start1.about1, start1.theMethod, start1.args0, start1.below0, start1.atStart⟩
end Jvm.Pilot.@@N@@
