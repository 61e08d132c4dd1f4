import JvmDerived
import JvmDerived.Pilot.@@N@@Statement
import JvmDerived.Pilot.@@N@@Code
set_option linter.unusedVariables false
set_option linter.unusedSimpArgs false
@@BLOCK:NumsL.lean.txt@@
namespace Jvm.Pilot.@@N@@
open Jvm Jvm.ClassFile Sem Op Lib Jvm.Free Jvm.Stand Jvm.LawKit Jvm.RoadKit Bundle Jvm.Pilot.@@N@@.Jvm.D

section OwnKit
variable {p : Program} {l : Launch} {e : Env} {R : Room} {s : State} {m : MethodId} {args : Array Value} {below : List Frame} {meth : Method} {c : Code} {T T' : State} {locs : List Loc} {cells slots C S : Nat} {Nd : Outcome → State → List Loc → Prop} {Q : Option Value → Heap → List Loc → Prop} {pc n : Nat} {Ls Ls' : Array Slot} {st : List Value} {g g' : JFrame} {Z : State} {a0 : Array Value} {h : Heap}
/-- from T, with the frame g on top, the method comes to its end, and Q is said of what it returns, of the heap and of the places written -/
def Go (p : Program) (e : Env) (below : List Frame) (Nd : Outcome → State → List Loc → Prop) (Q : Option Value → Heap → List Loc → Prop) (T : State) (g : JFrame) : Prop :=
  ∃ s₂ o, Steps p.tables e below (T.setTop g) s₂ ∧ s₂.status = .running ∧ Ended s₂ below o ∧ ∃ v L, o = .returned v ∧ Q v s₂.heap L ∧ Nd o s₂ L
/-- the narrow end, and the wide one (String constants may have come) -/
def Fe (s : State) (C S : Nat) (o : Outcome) (t : State) (L : List Loc) : Prop := FrameEnd s o t L C S
def Fw (s : State) (C S : Nat) (o : Outcome) (t : State) (L : List Loc) : Prop := ReturnedEndW s o t L C S
theorem Fe.of {v : Option Value} (hC : cells ≤ C) (hS : slots ≤ S) : ∀ t, FrameEnd s (.returned v) t locs cells slots → t.heap = T.heap → Fe s C S (.returned v) t locs := fun t q _ => ⟨q.1, q.2.1, q.2.2.mono hC hS⟩
theorem Go.stp (q : ∀ t, Steps p.tables e below (T'.setTop g') t → Steps p.tables e below (T.setTop g) t) (k : Go p e below Nd Q T' g') : Go p e below Nd Q T g := by
  obtain ⟨s₂, o, h1, h2⟩ := k; exact ⟨s₂, o, q _ h1, h2⟩
theorem Go.tr (q : Steps p.tables e below (T.setTop g) (T'.setTop g')) (k : Go p e below Nd Q T' g') : Go p e below Nd Q T g := Go.stp (fun _ r => q.trans r) k
theorem Go.mono {Q' : Option Value → Heap → List Loc → Prop} (k : Go p e below Nd Q T g) (q : ∀ v h L, Q v h L → Q' v h L) : Go p e below Nd Q' T g := by
  obtain ⟨s₂, o, h1, h2, h3, v, L, h4, h5, h6⟩ := k; exact ⟨s₂, o, h1, h2, h3, v, L, h4, q _ _ _ h5, h6⟩
theorem g_aloadN (X : Stand p l e R s m args below meth c T locs cells slots) (hx : p.tables.exec = Jvm.exec) {k : Fin 4} {v : Value} (hd : decode c.code pc = .ok (.aload_n k, 1)) (hn : pc + 1 = n) (hl : Ls[k.val]? = some (.val v)) (hv : v.isRef = true) (k : Go p e below Nd Q T (mkF m n Ls (v :: st))) : Go p e below Nd Q T (mkF m pc Ls st) := by
  subst hn; exact Go.stp (fun t q => XS.aloadN X.here hx rfl hd hl hv q) k
theorem g_aload (X : Stand p l e R s m args below meth c T locs cells slots) (hx : p.tables.exec = Jvm.exec) {k : Nat} {v : Value} (hd : decode c.code pc = .ok (.aload k, 2)) (hn : pc + 2 = n) (hl : Ls[k]? = some (.val v)) (hv : v.isRef = true) (k : Go p e below Nd Q T (mkF m n Ls (v :: st))) : Go p e below Nd Q T (mkF m pc Ls st) := by
  subst hn; exact Go.stp (fun t q => XS.aload X.here hx rfl hd hl hv q) k
theorem g_iloadN (X : Stand p l e R s m args below meth c T locs cells slots) (hx : p.tables.exec = Jvm.exec) {k : Fin 4} {v : Int32} (hd : decode c.code pc = .ok (.iload_n k, 1)) (hn : pc + 1 = n) (hl : Ls[k.val]? = some (.val (.int v))) (k : Go p e below Nd Q T (mkF m n Ls (.int v :: st))) : Go p e below Nd Q T (mkF m pc Ls st) := by
  subst hn; exact Go.stp (fun t q => XS.iloadN X.here hx rfl hd hl q) k
theorem g_iload (X : Stand p l e R s m args below meth c T locs cells slots) (hx : p.tables.exec = Jvm.exec) {k : Nat} {v : Int32} (hd : decode c.code pc = .ok (.iload k, 2)) (hn : pc + 2 = n) (hl : Ls[k]? = some (.val (.int v))) (k : Go p e below Nd Q T (mkF m n Ls (.int v :: st))) : Go p e below Nd Q T (mkF m pc Ls st) := by
  subst hn; exact Go.stp (fun t q => XS.iload X.here hx rfl hd hl q) k
theorem g_istoreN (X : Stand p l e R s m args below meth c T locs cells slots) (hx : p.tables.exec = Jvm.exec) {k : Fin 4} {v : Int32} (hd : decode c.code pc = .ok (.istore_n k, 1)) (hn : pc + 1 = n) (Ls' : Array Slot) (hl : storeLocals Ls k.val (.int v) = some Ls') (k : Go p e below Nd Q T (mkF m n Ls' st)) : Go p e below Nd Q T (mkF m pc Ls (.int v :: st)) := by
  subst hn; exact Go.stp (fun t q => XS.istoreN X.here hx rfl hd rfl hl q) k
theorem g_istore (X : Stand p l e R s m args below meth c T locs cells slots) (hx : p.tables.exec = Jvm.exec) {k : Nat} {v : Int32} (hd : decode c.code pc = .ok (.istore k, 2)) (hn : pc + 2 = n) (Ls' : Array Slot) (hl : storeLocals Ls k (.int v) = some Ls') (k : Go p e below Nd Q T (mkF m n Ls' st)) : Go p e below Nd Q T (mkF m pc Ls (.int v :: st)) := by
  subst hn; exact Go.stp (fun t q => XS.istore X.here hx rfl hd rfl hl q) k
theorem g_lloadN (X : Stand p l e R s m args below meth c T locs cells slots) (hx : p.tables.exec = Jvm.exec) {k : Fin 4} {v : Int64} (hd : decode c.code pc = .ok (.lload_n k, 1)) (hn : pc + 1 = n) (hl : Ls[k.val]? = some (.val (.long v))) (k : Go p e below Nd Q T (mkF m n Ls (.long v :: st))) : Go p e below Nd Q T (mkF m pc Ls st) := by
  subst hn; exact Go.stp (fun t q => XT.lloadN X.here hx rfl hd hl q) k
theorem g_lload (X : Stand p l e R s m args below meth c T locs cells slots) (hx : p.tables.exec = Jvm.exec) {k : Nat} {v : Int64} (hd : decode c.code pc = .ok (.lload k, 2)) (hn : pc + 2 = n) (hl : Ls[k]? = some (.val (.long v))) (k : Go p e below Nd Q T (mkF m n Ls (.long v :: st))) : Go p e below Nd Q T (mkF m pc Ls st) := by
  subst hn; exact Go.stp (fun t q => XT.lload X.here hx rfl hd hl q) k
theorem g_lstoreN (X : Stand p l e R s m args below meth c T locs cells slots) (hx : p.tables.exec = Jvm.exec) {k : Fin 4} {v : Int64} (hd : decode c.code pc = .ok (.lstore_n k, 1)) (hn : pc + 1 = n) (Ls' : Array Slot) (hl : storeLocals Ls k.val (.long v) = some Ls') (k : Go p e below Nd Q T (mkF m n Ls' st)) : Go p e below Nd Q T (mkF m pc Ls (.long v :: st)) := by
  subst hn; exact Go.stp (fun t q => XT.lstoreN X.here hx rfl hd rfl hl q) k
theorem g_lstore (X : Stand p l e R s m args below meth c T locs cells slots) (hx : p.tables.exec = Jvm.exec) {k : Nat} {v : Int64} (hd : decode c.code pc = .ok (.lstore k, 2)) (hn : pc + 2 = n) (Ls' : Array Slot) (hl : storeLocals Ls k (.long v) = some Ls') (k : Go p e below Nd Q T (mkF m n Ls' st)) : Go p e below Nd Q T (mkF m pc Ls (.long v :: st)) := by
  subst hn; exact Go.stp (fun t q => XT.lstore X.here hx rfl hd rfl hl q) k
theorem g_astoreN (X : Stand p l e R s m args below meth c T locs cells slots) (hx : p.tables.exec = Jvm.exec) {k : Fin 4} {v : Value} (hd : decode c.code pc = .ok (.astore_n k, 1)) (hn : pc + 1 = n) (hv : v.isRef = true) (Ls' : Array Slot) (hl : storeLocals Ls k.val v = some Ls') (k : Go p e below Nd Q T (mkF m n Ls' st)) : Go p e below Nd Q T (mkF m pc Ls (v :: st)) := by
  subst hn; exact Go.stp (fun t q => XS.astoreN X.here hx rfl hd rfl hv hl q) k
theorem g_astore (X : Stand p l e R s m args below meth c T locs cells slots) (hx : p.tables.exec = Jvm.exec) {k : Nat} {v : Value} (hd : decode c.code pc = .ok (.astore k, 2)) (hn : pc + 2 = n) (hv : v.isRef = true) (Ls' : Array Slot) (hl : storeLocals Ls k v = some Ls') (k : Go p e below Nd Q T (mkF m n Ls' st)) : Go p e below Nd Q T (mkF m pc Ls (v :: st)) := by
  subst hn; exact Go.stp (fun t q => XS.astore X.here hx rfl hd rfl hv hl q) k
theorem g_iconst (X : Stand p l e R s m args below meth c T locs cells slots) (hx : p.tables.exec = Jvm.exec) {i : Int} (v : Int32) (hd : decode c.code pc = .ok (.iconst i, 1)) (hn : pc + 1 = n) (hv : Int32.ofInt i = v) (k : Go p e below Nd Q T (mkF m n Ls (.int v :: st))) : Go p e below Nd Q T (mkF m pc Ls st) := by
  subst hn hv; exact Go.stp (fun t q => XS.iconst X.here hx rfl hd q) k
theorem g_bipush (X : Stand p l e R s m args below meth c T locs cells slots) (hx : p.tables.exec = Jvm.exec) {i : Int} (v : Int32) (hd : decode c.code pc = .ok (.bipush i, 2)) (hn : pc + 2 = n) (hv : (Int8.ofInt i).toInt32 = v) (k : Go p e below Nd Q T (mkF m n Ls (.int v :: st))) : Go p e below Nd Q T (mkF m pc Ls st) := by
  subst hn hv; exact Go.stp (fun t q => XS.bipush X.here hx rfl hd q) k
theorem g_sipush (X : Stand p l e R s m args below meth c T locs cells slots) (hx : p.tables.exec = Jvm.exec) {i : Int} (v : Int32) (hd : decode c.code pc = .ok (.sipush i, 3)) (hn : pc + 3 = n) (hv : (Int16.ofInt i).toInt32 = v) (k : Go p e below Nd Q T (mkF m n Ls (.int v :: st))) : Go p e below Nd Q T (mkF m pc Ls st) := by
  subst hn hv; exact Go.stp (fun t q => XS.sipush X.here hx rfl hd q) k
theorem g_lconst (X : Stand p l e R s m args below meth c T locs cells slots) (hx : p.tables.exec = Jvm.exec) {j : Fin 2} (v : Int64) (hd : decode c.code pc = .ok (.lconst j, 1)) (hn : pc + 1 = n) (hv : Int64.ofNat j = v) (k : Go p e below Nd Q T (mkF m n Ls (.long v :: st))) : Go p e below Nd Q T (mkF m pc Ls st) := by
  subst hn hv; exact Go.stp (fun t q => XT.lconst X.here hx rfl hd q) k
theorem g_aconstNull (X : Stand p l e R s m args below meth c T locs cells slots) (hx : p.tables.exec = Jvm.exec) (hd : decode c.code pc = .ok (.aconst_null, 1)) (hn : pc + 1 = n) (k : Go p e below Nd Q T (mkF m n Ls (.null :: st))) : Go p e below Nd Q T (mkF m pc Ls st) := by
  subst hn; exact Go.stp (fun t q => XS.aconstNull X.here hx rfl hd q) k
theorem g_iadd (X : Stand p l e R s m args below meth c T locs cells slots) (hx : p.tables.exec = Jvm.exec) {x y : Int32} (hd : decode c.code pc = .ok (.iadd, 1)) (hn : pc + 1 = n) (k : Go p e below Nd Q T (mkF m n Ls (.int (x + y) :: st))) : Go p e below Nd Q T (mkF m pc Ls (.int y :: .int x :: st)) := by
  subst hn; exact Go.stp (fun t q => XS.iadd X.here hx rfl hd rfl q) k
theorem g_isub (X : Stand p l e R s m args below meth c T locs cells slots) (hx : p.tables.exec = Jvm.exec) {x y : Int32} (hd : decode c.code pc = .ok (.isub, 1)) (hn : pc + 1 = n) (k : Go p e below Nd Q T (mkF m n Ls (.int (x - y) :: st))) : Go p e below Nd Q T (mkF m pc Ls (.int y :: .int x :: st)) := by
  subst hn; exact Go.stp (fun t q => XS.isub X.here hx rfl hd rfl q) k
theorem g_imul (X : Stand p l e R s m args below meth c T locs cells slots) (hx : p.tables.exec = Jvm.exec) {x y : Int32} (hd : decode c.code pc = .ok (.imul, 1)) (hn : pc + 1 = n) (k : Go p e below Nd Q T (mkF m n Ls (.int (x * y) :: st))) : Go p e below Nd Q T (mkF m pc Ls (.int y :: .int x :: st)) := by
  subst hn; exact Go.stp (fun t q => XS.imul X.here hx rfl hd rfl q) k
theorem g_iand (X : Stand p l e R s m args below meth c T locs cells slots) (hx : p.tables.exec = Jvm.exec) {x y : Int32} (hd : decode c.code pc = .ok (.iand, 1)) (hn : pc + 1 = n) (k : Go p e below Nd Q T (mkF m n Ls (.int (x &&& y) :: st))) : Go p e below Nd Q T (mkF m pc Ls (.int y :: .int x :: st)) := by
  subst hn; exact Go.stp (fun t q => XS.iand X.here hx rfl hd rfl q) k
theorem g_ior (X : Stand p l e R s m args below meth c T locs cells slots) (hx : p.tables.exec = Jvm.exec) {x y : Int32} (hd : decode c.code pc = .ok (.ior, 1)) (hn : pc + 1 = n) (k : Go p e below Nd Q T (mkF m n Ls (.int (x ||| y) :: st))) : Go p e below Nd Q T (mkF m pc Ls (.int y :: .int x :: st)) := by
  subst hn; exact Go.stp (fun t q => XT.ior X.here hx rfl hd rfl q) k
theorem g_ixor (X : Stand p l e R s m args below meth c T locs cells slots) (hx : p.tables.exec = Jvm.exec) {x y : Int32} (hd : decode c.code pc = .ok (.ixor, 1)) (hn : pc + 1 = n) (k : Go p e below Nd Q T (mkF m n Ls (.int (x ^^^ y) :: st))) : Go p e below Nd Q T (mkF m pc Ls (.int y :: .int x :: st)) := by
  subst hn; exact Go.stp (fun t q => XT.ixor X.here hx rfl hd rfl q) k
theorem g_ishl (X : Stand p l e R s m args below meth c T locs cells slots) (hx : p.tables.exec = Jvm.exec) {x y : Int32} (hd : decode c.code pc = .ok (.ishl, 1)) (hn : pc + 1 = n) (k : Go p e below Nd Q T (mkF m n Ls (.int (x <<< (y &&& 31)) :: st))) : Go p e below Nd Q T (mkF m pc Ls (.int y :: .int x :: st)) := by
  subst hn; exact Go.stp (fun t q => XT.ishl X.here hx rfl hd rfl q) k
theorem g_ishr (X : Stand p l e R s m args below meth c T locs cells slots) (hx : p.tables.exec = Jvm.exec) {x y : Int32} (hd : decode c.code pc = .ok (.ishr, 1)) (hn : pc + 1 = n) (k : Go p e below Nd Q T (mkF m n Ls (.int (x >>> (y &&& 31)) :: st))) : Go p e below Nd Q T (mkF m pc Ls (.int y :: .int x :: st)) := by
  subst hn; exact Go.stp (fun t q => XT.ishr X.here hx rfl hd rfl q) k
theorem g_iushr (X : Stand p l e R s m args below meth c T locs cells slots) (hx : p.tables.exec = Jvm.exec) {x y : Int32} (hd : decode c.code pc = .ok (.iushr, 1)) (hn : pc + 1 = n) (k : Go p e below Nd Q T (mkF m n Ls (.int (XT.ushr x y) :: st))) : Go p e below Nd Q T (mkF m pc Ls (.int y :: .int x :: st)) := by
  subst hn; exact Go.stp (fun t q => XT.iushr X.here hx rfl hd rfl q) k
theorem g_irem (X : Stand p l e R s m args below meth c T locs cells slots) (hx : p.tables.exec = Jvm.exec) {x y : Int32} (hd : decode c.code pc = .ok (.irem, 1)) (hn : pc + 1 = n) (hy : y ≠ 0) (k : Go p e below Nd Q T (mkF m n Ls (.int (x % y) :: st))) : Go p e below Nd Q T (mkF m pc Ls (.int y :: .int x :: st)) := by
  subst hn; exact Go.stp (fun t q => iremM X hx rfl hd rfl hy q) k
theorem g_ladd (X : Stand p l e R s m args below meth c T locs cells slots) (hx : p.tables.exec = Jvm.exec) {x y : Int64} (hd : decode c.code pc = .ok (.ladd, 1)) (hn : pc + 1 = n) (k : Go p e below Nd Q T (mkF m n Ls (.long (x + y) :: st))) : Go p e below Nd Q T (mkF m pc Ls (.long y :: .long x :: st)) := by
  subst hn; exact Go.stp (fun t q => XT.ladd X.here hx rfl hd rfl q) k
theorem g_lsub (X : Stand p l e R s m args below meth c T locs cells slots) (hx : p.tables.exec = Jvm.exec) {x y : Int64} (hd : decode c.code pc = .ok (.lsub, 1)) (hn : pc + 1 = n) (k : Go p e below Nd Q T (mkF m n Ls (.long (x - y) :: st))) : Go p e below Nd Q T (mkF m pc Ls (.long y :: .long x :: st)) := by
  subst hn; exact Go.stp (fun t q => XT.lsub X.here hx rfl hd rfl q) k
theorem g_lmul (X : Stand p l e R s m args below meth c T locs cells slots) (hx : p.tables.exec = Jvm.exec) {x y : Int64} (hd : decode c.code pc = .ok (.lmul, 1)) (hn : pc + 1 = n) (k : Go p e below Nd Q T (mkF m n Ls (.long (x * y) :: st))) : Go p e below Nd Q T (mkF m pc Ls (.long y :: .long x :: st)) := by
  subst hn; exact Go.stp (fun t q => XT.lmul X.here hx rfl hd rfl q) k
theorem g_land (X : Stand p l e R s m args below meth c T locs cells slots) (hx : p.tables.exec = Jvm.exec) {x y : Int64} (hd : decode c.code pc = .ok (.land, 1)) (hn : pc + 1 = n) (k : Go p e below Nd Q T (mkF m n Ls (.long (x &&& y) :: st))) : Go p e below Nd Q T (mkF m pc Ls (.long y :: .long x :: st)) := by
  subst hn; exact Go.stp (fun t q => XT.land X.here hx rfl hd rfl q) k
theorem g_ldiv (X : Stand p l e R s m args below meth c T locs cells slots) (hx : p.tables.exec = Jvm.exec) {x y : Int64} (hd : decode c.code pc = .ok (.ldiv, 1)) (hn : pc + 1 = n) (hy : y ≠ 0) (k : Go p e below Nd Q T (mkF m n Ls (.long (x / y) :: st))) : Go p e below Nd Q T (mkF m pc Ls (.long y :: .long x :: st)) := by
  subst hn; exact Go.stp (fun t q => XT.ldiv X.here hx rfl hd rfl hy q) k
theorem g_lrem (X : Stand p l e R s m args below meth c T locs cells slots) (hx : p.tables.exec = Jvm.exec) {x y : Int64} (hd : decode c.code pc = .ok (.lrem, 1)) (hn : pc + 1 = n) (hy : y ≠ 0) (k : Go p e below Nd Q T (mkF m n Ls (.long (x - (x / y) * y) :: st))) : Go p e below Nd Q T (mkF m pc Ls (.long y :: .long x :: st)) := by
  subst hn; exact Go.stp (fun t q => XT.lrem X.here hx rfl hd rfl hy q) k
theorem g_lcmp (X : Stand p l e R s m args below meth c T locs cells slots) (hx : p.tables.exec = Jvm.exec) {x y : Int64} (hd : decode c.code pc = .ok (.lcmp, 1)) (hn : pc + 1 = n) (k : Go p e below Nd Q T (mkF m n Ls (.int (XT.cmpL x y) :: st))) : Go p e below Nd Q T (mkF m pc Ls (.long y :: .long x :: st)) := by
  subst hn; exact Go.stp (fun t q => XT.lcmp X.here hx rfl hd rfl q) k
theorem g_lshr (X : Stand p l e R s m args below meth c T locs cells slots) (hx : p.tables.exec = Jvm.exec) {x : Int64} {y : Int32} (hd : decode c.code pc = .ok (.lshr, 1)) (hn : pc + 1 = n) (k : Go p e below Nd Q T (mkF m n Ls (.long (x >>> (y.toInt64 &&& 63)) :: st))) : Go p e below Nd Q T (mkF m pc Ls (.int y :: .long x :: st)) := by
  subst hn; exact Go.stp (fun t q => XT.lshr X.here hx rfl hd rfl q) k
theorem g_lushr (X : Stand p l e R s m args below meth c T locs cells slots) (hx : p.tables.exec = Jvm.exec) {x : Int64} {y : Int32} (hd : decode c.code pc = .ok (.lushr, 1)) (hn : pc + 1 = n) (k : Go p e below Nd Q T (mkF m n Ls (.long (XT.ushrL x y) :: st))) : Go p e below Nd Q T (mkF m pc Ls (.int y :: .long x :: st)) := by
  subst hn; exact Go.stp (fun t q => XT.lushr X.here hx rfl hd rfl q) k
theorem g_lneg (X : Stand p l e R s m args below meth c T locs cells slots) (hx : p.tables.exec = Jvm.exec) {x : Int64} (hd : decode c.code pc = .ok (.lneg, 1)) (hn : pc + 1 = n) (k : Go p e below Nd Q T (mkF m n Ls (.long (-x) :: st))) : Go p e below Nd Q T (mkF m pc Ls (.long x :: st)) := by
  subst hn; exact Go.stp (fun t q => XT.lneg X.here hx rfl hd rfl q) k
theorem g_i2l (X : Stand p l e R s m args below meth c T locs cells slots) (hx : p.tables.exec = Jvm.exec) {x : Int32} (hd : decode c.code pc = .ok (.i2l, 1)) (hn : pc + 1 = n) (k : Go p e below Nd Q T (mkF m n Ls (.long x.toInt64 :: st))) : Go p e below Nd Q T (mkF m pc Ls (.int x :: st)) := by
  subst hn; exact Go.stp (fun t q => XT.i2l X.here hx rfl hd rfl q) k
theorem g_l2i (X : Stand p l e R s m args below meth c T locs cells slots) (hx : p.tables.exec = Jvm.exec) {x : Int64} (hd : decode c.code pc = .ok (.l2i, 1)) (hn : pc + 1 = n) (k : Go p e below Nd Q T (mkF m n Ls (.int x.toInt32 :: st))) : Go p e below Nd Q T (mkF m pc Ls (.long x :: st)) := by
  subst hn; exact Go.stp (fun t q => XT.l2i X.here hx rfl hd rfl q) k
theorem g_i2b (X : Stand p l e R s m args below meth c T locs cells slots) (hx : p.tables.exec = Jvm.exec) {x : Int32} (hd : decode c.code pc = .ok (.i2b, 1)) (hn : pc + 1 = n) (k : Go p e below Nd Q T (mkF m n Ls (.int x.toInt8.toInt32 :: st))) : Go p e below Nd Q T (mkF m pc Ls (.int x :: st)) := by
  subst hn; exact Go.stp (fun t q => XT.i2b X.here hx rfl hd rfl q) k
theorem g_i2c (X : Stand p l e R s m args below meth c T locs cells slots) (hx : p.tables.exec = Jvm.exec) {x : Int32} (hd : decode c.code pc = .ok (.i2c, 1)) (hn : pc + 1 = n) (k : Go p e below Nd Q T (mkF m n Ls (.int x.toUInt32.toUInt16.toUInt32.toInt32 :: st))) : Go p e below Nd Q T (mkF m pc Ls (.int x :: st)) := by
  subst hn; exact Go.stp (fun t q => XT.i2c X.here hx rfl hd rfl q) k
theorem g_dup (X : Stand p l e R s m args below meth c T locs cells slots) (hx : p.tables.exec = Jvm.exec) {x : Value} (hd : decode c.code pc = .ok (.dup, 1)) (hn : pc + 1 = n) (hc : x.category = 1) (k : Go p e below Nd Q T (mkF m n Ls (x :: x :: st))) : Go p e below Nd Q T (mkF m pc Ls (x :: st)) := by
  subst hn; exact Go.stp (fun t q => XS.dup X.here hx rfl hd rfl hc q) k
theorem g_dupX1 (X : Stand p l e R s m args below meth c T locs cells slots) (hx : p.tables.exec = Jvm.exec) {x y : Value} (hd : decode c.code pc = .ok (.dup_x1, 1)) (hn : pc + 1 = n) (hc : x.category = 1) (hc' : y.category = 1) (k : Go p e below Nd Q T (mkF m n Ls (x :: y :: x :: st))) : Go p e below Nd Q T (mkF m pc Ls (x :: y :: st)) := by
  subst hn; exact Go.stp (fun t q => XT.dupX1 X.here hx rfl hd rfl hc hc' q) k
theorem g_pop (X : Stand p l e R s m args below meth c T locs cells slots) (hx : p.tables.exec = Jvm.exec) {x : Value} (hd : decode c.code pc = .ok (.pop, 1)) (hn : pc + 1 = n) (hc : x.category = 1) (k : Go p e below Nd Q T (mkF m n Ls st)) : Go p e below Nd Q T (mkF m pc Ls (x :: st)) := by
  subst hn; exact Go.stp (fun t q => XT.pop X.here hx rfl hd rfl hc q) k
theorem g_iinc (X : Stand p l e R s m args below meth c T locs cells slots) (hx : p.tables.exec = Jvm.exec) {k : Nat} {cst : Int} {x : Int32} (hd : decode c.code pc = .ok (.iinc k cst, 3)) (hn : pc + 3 = n) (hl : Ls[k]? = some (.val (.int x))) (v : Int32) (hv : x + Int32.ofInt cst = v) (Ls' : Array Slot) (hl' : storeLocals Ls k (.int v) = some Ls') (k : Go p e below Nd Q T (mkF m n Ls' st)) : Go p e below Nd Q T (mkF m pc Ls st) := by
  subst hn hv; exact Go.stp (fun t q => XS.iinc X.here hx rfl hd hl hl' q) k
theorem g_goto (X : Stand p l e R s m args below meth c T locs cells slots) (hx : p.tables.exec = Jvm.exec) {o : Int} (hd : decode c.code pc = .ok (.goto o, 3)) (ho : 0 ≤ (pc : Int) + o) (hp : ((pc : Int) + o).toNat = n) (k : Go p e below Nd Q T (mkF m n Ls st)) : Go p e below Nd Q T (mkF m pc Ls st) :=
  Go.stp (fun t q => XS.goto X.here hx rfl rfl hd ho hp q) k
/-- a branch on an int: P is what it asks -/
theorem g_if (X : Stand p l e R s m args below meth c T locs cells slots) (hx : p.tables.exec = Jvm.exec) {cd : ClassFile.Cond} {o : Int} {x : Int32} {n' : Nat} (P : Prop) [Decidable P] (hP : ifCond.holds cd x = decide P) (hd : decode c.code pc = .ok (.ifCond cd o, 3)) (ho : 0 ≤ (pc : Int) + o) (hp : ((pc : Int) + o).toNat = n) (hn : pc + 3 = n')
    (kY : P → Go p e below Nd Q T (mkF m n Ls st)) (kN : ¬ P → Go p e below Nd Q T (mkF m n' Ls st)) : Go p e below Nd Q T (mkF m pc Ls (.int x :: st)) := by
  subst hn
  by_cases q : P
  · exact Go.stp (fun t r => XS.ifYes X.here hx rfl rfl hd rfl (by rw [hP]; exact decide_eq_true q) ho hp r) (kY q)
  · exact Go.stp (fun t r => XS.ifNo X.here hx rfl hd rfl (by rw [hP]; exact decide_eq_false q) r) (kN q)
theorem g_icmp (X : Stand p l e R s m args below meth c T locs cells slots) (hx : p.tables.exec = Jvm.exec) {cd : ClassFile.Cond} {o : Int} {x y : Int32} {n' : Nat} (P : Prop) [Decidable P] (hP : if_icmp.holds cd x y = decide P) (hd : decode c.code pc = .ok (.if_icmp cd o, 3)) (ho : 0 ≤ (pc : Int) + o) (hp : ((pc : Int) + o).toNat = n) (hn : pc + 3 = n')
    (kY : P → Go p e below Nd Q T (mkF m n Ls st)) (kN : ¬ P → Go p e below Nd Q T (mkF m n' Ls st)) : Go p e below Nd Q T (mkF m pc Ls (.int y :: .int x :: st)) := by
  subst hn
  by_cases q : P
  · exact Go.stp (fun t r => XS.icmpYes X.here hx rfl rfl hd rfl (by rw [hP]; exact decide_eq_true q) ho hp r) (kY q)
  · exact Go.stp (fun t r => XS.icmpNo X.here hx rfl hd rfl (by rw [hP]; exact decide_eq_false q) r) (kN q)
theorem own_acV (cd : ACond) (x y : Value) : XT.acmp cd x y = acV cd (decide (x = y)) := by
  cases cd <;> by_cases q : x = y <;> simp [XT.acmp, acV, q]
theorem g_acmp (X : Stand p l e R s m args below meth c T locs cells slots) (hx : p.tables.exec = Jvm.exec) {cd : ACond} {o : Int} {x y : Value} {n' : Nat} (P : Prop) [Decidable P] (hP : acV cd (decide (x = y)) = decide P) (h1 : x.isRef = true) (h2 : y.isRef = true) (hd : decode c.code pc = .ok (.if_acmp cd o, 3)) (ho : 0 ≤ (pc : Int) + o) (hp : ((pc : Int) + o).toNat = n) (hn : pc + 3 = n')
    (kY : P → Go p e below Nd Q T (mkF m n Ls st)) (kN : ¬ P → Go p e below Nd Q T (mkF m n' Ls st)) : Go p e below Nd Q T (mkF m pc Ls (y :: x :: st)) := by
  subst hn
  by_cases q : P
  · exact Go.stp (fun t r => XT.acmpYes X.here hx rfl rfl hd rfl h1 h2 (by rw [own_acV, hP]; exact decide_eq_true q) ho hp r) (kY q)
  · exact Go.stp (fun t r => XT.acmpNo X.here hx rfl hd rfl h1 h2 (by rw [own_acV, hP]; exact decide_eq_false q) r) (kN q)
theorem own_ceq (x y : Int32) : if_icmp.holds .eq x y = decide (x = y) := by by_cases q : x = y <;> simp [if_icmp.holds, q]
theorem own_cne (x y : Int32) : if_icmp.holds .ne x y = decide (¬ x = y) := by by_cases q : x = y <;> simp [if_icmp.holds, q]
theorem own_clt (x y : Int32) : if_icmp.holds .lt x y = decide (x < y) := rfl
theorem own_cge (x y : Int32) : if_icmp.holds .ge x y = decide (y ≤ x) := rfl
theorem own_cgt (x y : Int32) : if_icmp.holds .gt x y = decide (y < x) := rfl
theorem own_cle (x y : Int32) : if_icmp.holds .le x y = decide (x ≤ y) := rfl
theorem own_zeq (x : Int32) : ifCond.holds .eq x = decide (x = 0) := by rw [if0]; exact own_ceq x 0
theorem own_zne (x : Int32) : ifCond.holds .ne x = decide (¬ x = 0) := by rw [if0]; exact own_cne x 0
theorem own_zlt (x : Int32) : ifCond.holds .lt x = decide (x < 0) := rfl
theorem own_zge (x : Int32) : ifCond.holds .ge x = decide (0 ≤ x) := rfl
theorem own_zgt (x : Int32) : ifCond.holds .gt x = decide (0 < x) := rfl
theorem own_zle (x : Int32) : ifCond.holds .le x = decide (x ≤ 0) := rfl
theorem own_aeq (x y : Value) : acV .eq (decide (x = y)) = decide (x = y) := rfl
theorem own_ane (x y : Value) : acV .ne (decide (x = y)) = decide (¬ x = y) := by by_cases q : x = y <;> simp [acV, q]
theorem g_ifnullNo (X : Stand p l e R s m args below meth c T locs cells slots) (hx : p.tables.exec = Jvm.exec) {o : Int} {b : Nat} (hd : decode c.code pc = .ok (.ifnull o, 3)) (hn : pc + 3 = n) (k : Go p e below Nd Q T (mkF m n Ls st)) : Go p e below Nd Q T (mkF m pc Ls (.ref b :: st)) := by
  subst hn; exact Go.stp (fun t q => XS.ifnullNo X.here hx rfl hd rfl q) k
theorem g_ifnullYes (X : Stand p l e R s m args below meth c T locs cells slots) (hx : p.tables.exec = Jvm.exec) {o : Int} (hd : decode c.code pc = .ok (.ifnull o, 3)) (ho : 0 ≤ (pc : Int) + o) (hp : ((pc : Int) + o).toNat = n) (k : Go p e below Nd Q T (mkF m n Ls st)) : Go p e below Nd Q T (mkF m pc Ls (.null :: st)) :=
  Go.stp (fun t q => XS.ifnullYes X.here hx rfl rfl hd rfl ho hp q) k
theorem g_ifnonnullYes (X : Stand p l e R s m args below meth c T locs cells slots) (hx : p.tables.exec = Jvm.exec) {o : Int} {b : Nat} (hd : decode c.code pc = .ok (.ifnonnull o, 3)) (ho : 0 ≤ (pc : Int) + o) (hp : ((pc : Int) + o).toNat = n) (k : Go p e below Nd Q T (mkF m n Ls st)) : Go p e below Nd Q T (mkF m pc Ls (.ref b :: st)) :=
  Go.stp (fun t q => XT.ifnonnullYes X.here hx rfl rfl hd rfl ho hp q) k
/-! the ends -/
theorem g_ret (X : Stand p l e R s m args below meth c T locs cells slots) (hx : p.tables.exec = Jvm.exec) {i : Instr} {t : FieldType} {w : Value} (hret : meth.sig.returnType = some t) (hlk : meth.locks = false) (hnw : narrow t w = w)
    (hi : (i = .ireturn ∧ (t = .int ∨ t = .boolean ∨ t = .byte ∨ t = .char ∨ t = .short) ∧ ∃ z, w = .int z) ∨ (i = .lreturn ∧ t = .long ∧ ∃ z, w = .long z) ∨ (i = .dreturn ∧ t = .double ∧ ∃ z, w = .double z) ∨ (i = .freturn ∧ t = .float ∧ ∃ z, w = .float z) ∨ (i = .areturn ∧ t.isReference = true ∧ w.isRef = true))
    (hd : decode c.code pc = .ok (i, 1)) (hN : ∀ t, FrameEnd s (.returned (some w)) t locs cells slots → t.heap = T.heap → Nd (.returned (some w)) t locs) (hQ : Q (some w) T.heap locs) : Go p e below Nd Q T (mkF m pc Ls (w :: st)) := by
  obtain ⟨fs, hr, hrun, hended, hW, hsame⟩ := X.leave (v := some w) (fun q => by rw [hret] at q; cases q) hlk
  exact ⟨_, _, retOut X hx hret hnw hi hd hr, hrun, hended, _, _, rfl, hQ, hN _ ⟨⟨_, rfl⟩, hW, hsame⟩ rfl⟩
theorem g_retI (X : Stand p l e R s m args below meth c T locs cells slots) (hx : p.tables.exec = Jvm.exec) {w : Int32} (hret : meth.sig.returnType = some .int) (hlk : meth.locks = false) (hd : decode c.code pc = .ok (.ireturn, 1)) (hN : ∀ t, FrameEnd s (.returned (some (.int w))) t locs cells slots → t.heap = T.heap → Nd (.returned (some (.int w))) t locs) (hQ : Q (some (.int w)) T.heap locs) : Go p e below Nd Q T (mkF m pc Ls (.int w :: st)) :=
  g_ret X hx hret hlk rfl (Or.inl ⟨rfl, Or.inl rfl, _, rfl⟩) hd hN hQ
theorem g_retJ (X : Stand p l e R s m args below meth c T locs cells slots) (hx : p.tables.exec = Jvm.exec) {w : Int64} (hret : meth.sig.returnType = some .long) (hlk : meth.locks = false) (hd : decode c.code pc = .ok (.lreturn, 1)) (hN : ∀ t, FrameEnd s (.returned (some (.long w))) t locs cells slots → t.heap = T.heap → Nd (.returned (some (.long w))) t locs) (hQ : Q (some (.long w)) T.heap locs) : Go p e below Nd Q T (mkF m pc Ls (.long w :: st)) :=
  g_ret X hx hret hlk rfl (Or.inr (Or.inl ⟨rfl, rfl, _, rfl⟩)) hd hN hQ
theorem g_retZ (X : Stand p l e R s m args below meth c T locs cells slots) (hx : p.tables.exec = Jvm.exec) {w : Int32} (hw01 : w = 0 ∨ w = 1) (hret : meth.sig.returnType = some .boolean) (hlk : meth.locks = false) (hd : decode c.code pc = .ok (.ireturn, 1)) (hN : ∀ t, FrameEnd s (.returned (some (.int w))) t locs cells slots → t.heap = T.heap → Nd (.returned (some (.int w))) t locs) (hQ : Q (some (.int w)) T.heap locs) : Go p e below Nd Q T (mkF m pc Ls (.int w :: st)) :=
  g_ret X hx hret hlk (by rcases hw01 with rfl | rfl <;> rfl) (Or.inl ⟨rfl, Or.inr (Or.inl rfl), _, rfl⟩) hd hN hQ
theorem g_retN (X : Stand p l e R s m args below meth c T locs cells slots) (hx : p.tables.exec = Jvm.exec) {w : Int32} {t : FieldType} (ht : t = .byte ∨ t = .char ∨ t = .short) (hnw : narrow t (.int w) = .int w) (hret : meth.sig.returnType = some t) (hlk : meth.locks = false) (hd : decode c.code pc = .ok (.ireturn, 1)) (hN : ∀ t, FrameEnd s (.returned (some (.int w))) t locs cells slots → t.heap = T.heap → Nd (.returned (some (.int w))) t locs) (hQ : Q (some (.int w)) T.heap locs) : Go p e below Nd Q T (mkF m pc Ls (.int w :: st)) :=
  g_ret X hx hret hlk hnw (Or.inl ⟨rfl, by rcases ht with rfl | rfl | rfl <;> simp, _, rfl⟩) hd hN hQ
theorem g_retA (X : Stand p l e R s m args below meth c T locs cells slots) (hx : p.tables.exec = Jvm.exec) {w : Value} {t : FieldType} (hret : meth.sig.returnType = some t) (ht : t.isReference = true) (hw : w.isRef = true) (hlk : meth.locks = false) (hd : decode c.code pc = .ok (.areturn, 1)) (hN : ∀ t, FrameEnd s (.returned (some w)) t locs cells slots → t.heap = T.heap → Nd (.returned (some w)) t locs) (hQ : Q (some w) T.heap locs) : Go p e below Nd Q T (mkF m pc Ls (w :: st)) :=
  g_ret X hx hret hlk (by rcases ref_cases hw with rfl | ⟨a, rfl⟩ <;> cases t <;> first | rfl | cases ht) (Or.inr (Or.inr (Or.inr (Or.inr ⟨rfl, ht, hw⟩)))) hd hN hQ
theorem g_retV (X : Stand p l e R s m args below meth c T locs cells slots) (hx : p.tables.exec = Jvm.exec) (hret : meth.sig.returnType = none) (hlk : meth.locks = false) (hd : decode c.code pc = .ok (.return_, 1)) (hN : ∀ t, FrameEnd s (.returned none) t locs cells slots → t.heap = T.heap → Nd (.returned none) t locs) (hQ : Q none T.heap locs) : Go p e below Nd Q T (mkF m pc Ls []) := by
  obtain ⟨fs, hr, hrun, hended, hW, hsame⟩ := X.leave (v := none) (fun _ => rfl) hlk
  exact ⟨_, _, X.returnOut hx hret hd hr, hrun, hended, _, _, rfl, hQ, hN _ ⟨⟨_, rfl⟩, hW, hsame⟩ rfl⟩
/-! tables and heap -/
variable {own : String} {index : Nat}
theorem g_ldcI (X : Stand p l e R s m args below meth c T locs cells slots) (hx : p.tables.exec = Jvm.exec) (hZ : Z.Warmed39 s.vm) {v : Int32} (hown : s.vm.findClass own = some m.cls) (w : (Cond.constant own index v).before a0 Z = true) (hd : decode c.code pc = .ok (.ldc index, 2)) (hn : pc + 2 = n) (k : Go p e below Nd Q T (mkF m n Ls (.int v :: st))) : Go p e below Nd Q T (mkF m pc Ls st) := by
  subst hn; exact Go.stp (fun t q => X.ldcI hx hown (mvT hZ w) rfl hd q) k
theorem g_ldc2 (X : Stand p l e R s m args below meth c T locs cells slots) (hx : p.tables.exec = Jvm.exec) (hZ : Z.Warmed39 s.vm) {v : Int64} (hown : s.vm.findClass own = some m.cls) (w : (Cond.constantLong own index v).before a0 Z = true) (hd : decode c.code pc = .ok (.ldc2_w index, 3)) (hn : pc + 3 = n) (k : Go p e below Nd Q T (mkF m n Ls (.long v :: st))) : Go p e below Nd Q T (mkF m pc Ls st) := by
  subst hn; exact Go.stp (fun t q => X.ldc2J hx hown (mvT hZ w) rfl hd q) k
theorem g_getF (X : Stand p l e R s m args below meth c T locs cells slots) (hx : p.tables.exec = Jvm.exec) (hZ : Z.Warmed39 s.vm) {O f d : String} (hown : s.vm.findClass own = some m.cls) (w : (Cond.fieldLink own index O f d).before a0 Z = true) (eT : T.heap = h) {a : Nat} {v : Value} (F : Fld Z h a O f d v) (hd : decode c.code pc = .ok (.getfield index, 3)) (hn : pc + 3 = n)
    (k : ∀ T', Stand p l e R s m args below meth c T' locs cells slots → T'.heap = h → Go p e below Nd Q T' (mkF m n Ls (v :: st))) : Go p e below Nd Q T (mkF m pc Ls (.ref a :: st)) := by
  subst hn
  obtain ⟨T1, X1, e1, st1⟩ := getF X hx hZ hown (host := "") (Or.inl w) Via.refl eT F (g := mkF m pc Ls (.ref a :: st)) rfl rfl hd
  exact Go.stp st1 (k T1 X1 e1)
theorem g_getS (X : Stand p l e R s m args below meth c T locs cells slots) (hx : p.tables.exec = Jvm.exec) (hZ : Z.Warmed39 s.vm) {O f d : String} (hown : s.vm.findClass own = some m.cls) (w : (Cond.fieldLink own index O f d).before a0 Z = true) (eT : T.heap = h) {v : Value} (F : Sta Z h O f d v) (hd : decode c.code pc = .ok (.getstatic index, 3)) (hn : pc + 3 = n)
    (k : ∀ T', Stand p l e R s m args below meth c T' locs cells slots → T'.heap = h → Go p e below Nd Q T' (mkF m n Ls (v :: st))) : Go p e below Nd Q T (mkF m pc Ls st) := by
  subst hn
  obtain ⟨T1, X1, e1, st1⟩ := getS X hx hZ (host := "") hown w Via.refl eT F (g := mkF m pc Ls st) rfl hd
  exact Go.stp st1 (k T1 X1 e1)
theorem g_putF (X : Stand p l e R s m args below meth c T locs cells slots) (hx : p.tables.exec = Jvm.exec) (hZ : Z.Warmed39 s.vm) {O f d K : String} {kk : Nat} {ty : FieldType} (hown : s.vm.findClass own = some m.cls) (w : (Cond.fieldLink own index O f d).before a0 Z = true) (eT : T.heap = h) {a : Nat} {v old : Value} (F : Fld Z h a O f d old) (E : Exa Z h a K)
    (L : (Cond.lays K O f d).before a0 Z = true ∨ ((Cond.laysFinal K O f d).before a0 Z = true ∧ own = O ∧ meth.name = "<init>")) (wi : (Cond.instantiable K kk).before a0 Z = true) (hty : parseFieldDescriptor d = some ty) (hnw : narrow ty v = v) (hf : fits ty v = true) (hd : decode c.code pc = .ok (.putfield index, 3)) (hn : pc + 3 = n)
    (k : ∀ T' h', Stand p l e R s m args below meth c T' (locs ++ [⟨a, Jvm.RoadKit.slotOf Z O f d⟩]) cells slots → T'.heap = h' → Wr h h' a (Jvm.RoadKit.slotOf Z O f d) v → Go p e below Nd Q T' (mkF m n Ls st)) : Go p e below Nd Q T (mkF m pc Ls (v :: .ref a :: st)) := by
  subst hn
  obtain ⟨T1, h1, X1, e1, W1, st1⟩ := putF X hx hZ hown (host := "") (Or.inl w) Via.refl eT F E L wi hty hnw hf (g := mkF m pc Ls (v :: .ref a :: st)) rfl rfl hd
  exact Go.stp st1 (k T1 h1 X1 e1 W1)
theorem g_new (X : Stand p l e R s m args below meth c T locs cells slots) (hx : p.tables.exec = Jvm.exec) (hZ : Z.Warmed39 s.vm) {K : String} {nn : Nat} (hown : s.vm.findClass own = some m.cls) (w : (Cond.classLink own index K).before a0 Z = true) (wi : (Cond.instantiable K nn).before a0 Z = true) (wz : (Cond.initialized K).before a0 Z = true) (eT : T.heap = h) (hd : decode c.code pc = .ok (.new index, 3)) (hn : pc + 3 = n) (hc : cells + 1 ≤ R.cells) (hl : slots + nn ≤ R.slots)
    (k : ∀ T' h' a, Stand p l e R s m args below meth c T' locs (cells + 1) (slots + nn) → T'.heap = h' → a = h.size → Ext h h' → Exa Z h' a K → (∀ {O f d : String} {ty : FieldType}, Laid Z a0 K O f d → parseFieldDescriptor d = some ty → Fld Z h' a O f d (defaultValue ty)) → Go p e below Nd Q T' (mkF m n Ls (.ref a :: st))) : Go p e below Nd Q T (mkF m pc Ls st) := by
  subst hn
  obtain ⟨T1, h1, X1, e1, E1, A1, D1, -, st1⟩ := newO X hx hZ hown w wi wz eT (g := mkF m pc Ls st) rfl hd hc hl
  exact Go.stp st1 (k T1 h1 h.size X1 e1 rfl E1 A1 D1)
theorem g_cast (X : Stand p l e R s m args below meth c T locs cells slots) (hx : p.tables.exec = Jvm.exec) (hZ : Z.Warmed39 s.vm) {K : String} (hown : s.vm.findClass own = some m.cls) (w : (Cond.classLink own index K).before a0 Z = true) (eT : T.heap = h) {a : Nat} (F : Ins Z h a K true) (hd : decode c.code pc = .ok (.checkcast index, 3)) (hn : pc + 3 = n)
    (k : ∀ T', Stand p l e R s m args below meth c T' locs cells slots → T'.heap = h → Go p e below Nd Q T' (mkF m n Ls (.ref a :: st))) : Go p e below Nd Q T (mkF m pc Ls (.ref a :: st)) := by
  subst hn
  obtain ⟨T1, X1, e1, st1⟩ := castY X hx hZ hown w eT F (g := mkF m pc Ls (.ref a :: st)) rfl rfl hd
  exact Go.stp st1 (k T1 X1 e1)
theorem g_inst (X : Stand p l e R s m args below meth c T locs cells slots) (hx : p.tables.exec = Jvm.exec) (hZ : Z.Warmed39 s.vm) {K : String} (hown : s.vm.findClass own = some m.cls) (w : (Cond.classLink own index K).before a0 Z = true) (eT : T.heap = h) {a : Nat} (F : Ins Z h a K true) (hd : decode c.code pc = .ok (.instanceof index, 3)) (hn : pc + 3 = n)
    (k : ∀ T', Stand p l e R s m args below meth c T' locs cells slots → T'.heap = h → Go p e below Nd Q T' (mkF m n Ls (.int 1 :: st))) : Go p e below Nd Q T (mkF m pc Ls (.ref a :: st)) := by
  subst hn
  obtain ⟨T1, X1, e1, st1⟩ := instY X hx hZ hown w eT F (g := mkF m pc Ls (.ref a :: st)) rfl rfl hd
  exact Go.stp st1 (k T1 X1 e1)
/-! calls by contract -/
variable {y z : MethodName} {bytes : ByteArray} {maxL : Nat} {ret : Option FieldType} {rm : Room} {Qc : Option Value → Heap → List Loc → Prop} {ps : List FieldType} {rt : Option FieldType}
/-- a callee's contract over the heap h, with these arguments -/
abbrev OMet (l : Launch) (Z : State) (y : MethodName) (bytes : ByteArray) (maxL : Nat) (ret : Option FieldType) (ws : List Cond) (rm : Room) (as' : Array Value) (h : Heap) (Qc : Option Value → Heap → List Loc → Prop) : Prop :=
  MetFree l y (head1 (Cond.code y bytes maxL ret :: ws) rm) (fun a U => a = as' ∧ Z.Warmed39 U.vm ∧ U.heap = h) (fun _ _ _ _ _ => True) (fun _ U o U' => ∃ v L, o = .returned v ∧ Qc v U'.heap L ∧ FrameEnd U o U' L rm.cells rm.slots)
theorem own_body {ws : List Cond} {as' : Array Value} (hpn : plainFor y = true) (hef : ∀ m, entryFrame m as' maxL = mkF m 0 Ls [])
    (H : ∀ (p : Program) (e : Env) (s : State) (m : MethodId) (below : List Frame) (meth : Method) (c : Code) (s₁ : State), Stand p l e rm s m as' below meth c s₁ [] 0 0 → p.tables.exec = Jvm.exec → c.code = bytes → c.maxLocals = maxL → s.vm.findClass y.cls = some m.cls → meth.name = y.name → meth.sig.returnType = ret → meth.locks = false → Z.Warmed39 s.vm → s₁.heap = h → Go p e below (Fe s rm.cells rm.slots) Qc s₁ (mkF m 0 Ls [])) :
    OMet l Z y bytes maxL ret ws rm as' h Qc := by
  refine MetFree.of_bodySF hpn hisR ?_
  intro p e s m args below meth c s₁ Bd hml0 hP hK
  obtain ⟨rfl, hZ, hh⟩ := hP
  obtain ⟨s₂, o, h1, h2, h3, h4⟩ := H p e s m below meth c s₁ (Stand.of_body Bd) Bd.exec Bd.bytes hml0 (findClass_of_methodNamed Bd.named) (name_of_methodNamed Bd.named Bd.method).1 Bd.returns (BodyLoose.notSynchronized Bd) hZ (by rw [← hh, Bd.state]; rfl)
  exact ⟨s₂, o, castTop (hef m) h1, h2, h3, h4⟩
theorem g_callS (X : Stand p l e R s m args below meth c T locs cells slots) (hx : p.tables.exec = Jvm.exec) (hZ : Z.Warmed39 s.vm) (hown : s.vm.findClass own = some m.cls) (eT : T.heap = h) (w1 : (Cond.methodLink own index y).before a0 Z = true) (w2 : (Cond.static y).before a0 Z = true) (w3 : (Cond.initialized y.cls).before a0 Z = true) (w4 : (Cond.code y bytes maxL ret).before a0 Z = true)
    (hy : y.cls ≠ "java/lang/invoke/MethodHandle" ∧ y.cls ≠ "java/lang/invoke/VarHandle") (as' : List Value) (hM : OMet l Z y bytes maxL ret [] rm as'.toArray h Qc) (hpd : parseMethodDescriptor y.desc = some ⟨ps, rt⟩) (hlen : as'.length = ps.length) (hd : decode c.code pc = .ok (.invokestatic index, 3)) (hn : pc + 3 = n) (hsize : Ls.size = c.maxLocals)
    (hf : rm.frames + 1 ≤ R.frames) (W : Nat) (hW : (st.map fun v => v.category).sum ≤ W) (hl : W + (maxL + 11) + rm.locals ≤ R.locals) (hc : cells + rm.cells ≤ R.cells) (hs : slots + rm.slots ≤ R.slots)
    (k : ∀ T' h' v L, Stand p l e R s m args below meth c T' (locs ++ L) (cells + rm.cells) (slots + rm.slots) → T'.heap = h' → Qc v h' L → Go p e below Nd Q T' (mkF m n Ls (v.toList ++ st))) : Go p e below Nd Q T (mkF m pc Ls (as'.reverse ++ st)) := by
  subst hn
  obtain ⟨v, _, ⟨T1, L1, k1, n1⟩, -, X1, ⟨L, hQ1, l1, y1, z1⟩, st1⟩ := Jvm.LawKit.callS X hx (y := y) hown (mvT hZ w1) (mvT hZ w2) (mvT hZ w3) (mvT hZ w4) hy (backOf (W := W) hM hZ w4 w3 hf hl) (g := mkF m pc Ls (as'.reverse ++ st)) rfl hsize (argsL := as') (rest := st) (lenOf hpd hlen) rfl (by show 2 * 0 + _ ≤ _; omega) hd (fun _ _ => ⟨rfl, eT, hc, hs⟩)
  dsimp only [Pt.U, Pt.locs, Pt.cells, Pt.slots] at X1 l1 y1 z1 st1 hQ1
  subst l1 y1 z1
  exact Go.stp st1 (k T1 _ v L X1 rfl hQ1)
/-- a callee that returns w and changes nothing -/
def Pu (w : Value) (h0 : Heap) (v : Option Value) (h : Heap) (L : List Loc) : Prop := v = some w ∧ L = [] ∧ h = h0
theorem g_callSP (X : Stand p l e R s m args below meth c T locs cells slots) (hx : p.tables.exec = Jvm.exec) (hZ : Z.Warmed39 s.vm) (hown : s.vm.findClass own = some m.cls) (eT : T.heap = h) (w1 : (Cond.methodLink own index y).before a0 Z = true) (w2 : (Cond.static y).before a0 Z = true) (w3 : (Cond.initialized y.cls).before a0 Z = true) (w4 : (Cond.code y bytes maxL ret).before a0 Z = true)
    (hy : y.cls ≠ "java/lang/invoke/MethodHandle" ∧ y.cls ≠ "java/lang/invoke/VarHandle") (as' : List Value) {w : Value} (hM : OMet l Z y bytes maxL ret [] rm as'.toArray h (Pu w h)) (hpd : parseMethodDescriptor y.desc = some ⟨ps, rt⟩) (hlen : as'.length = ps.length) (hd : decode c.code pc = .ok (.invokestatic index, 3)) (hn : pc + 3 = n) (hsize : Ls.size = c.maxLocals)
    (hf : rm.frames + 1 ≤ R.frames) (W : Nat) (hW : (st.map fun v => v.category).sum ≤ W) (hl : W + (maxL + 11) + rm.locals ≤ R.locals) (hc : cells + rm.cells ≤ R.cells) (hs : slots + rm.slots ≤ R.slots)
    (k : ∀ T', Stand p l e R s m args below meth c T' locs (cells + rm.cells) (slots + rm.slots) → T'.heap = h → Go p e below Nd Q T' (mkF m n Ls (w :: st))) : Go p e below Nd Q T (mkF m pc Ls (as'.reverse ++ st)) :=
  g_callS X hx hZ hown eT w1 w2 w3 w4 hy as' hM hpd hlen hd hn hsize hf W hW hl hc hs fun T' h' v L X' e' q => by
    obtain ⟨rfl, rfl, rfl⟩ := q
    rw [List.append_nil] at X'
    exact k T' X' e'
/-- a callee that returns nothing and changes nothing -/
def Pv (h0 : Heap) (v : Option Value) (h : Heap) (L : List Loc) : Prop := v = none ∧ L = [] ∧ h = h0
theorem g_callSV (X : Stand p l e R s m args below meth c T locs cells slots) (hx : p.tables.exec = Jvm.exec) (hZ : Z.Warmed39 s.vm) (hown : s.vm.findClass own = some m.cls) (eT : T.heap = h) (w1 : (Cond.methodLink own index y).before a0 Z = true) (w2 : (Cond.static y).before a0 Z = true) (w3 : (Cond.initialized y.cls).before a0 Z = true) (w4 : (Cond.code y bytes maxL ret).before a0 Z = true)
    (hy : y.cls ≠ "java/lang/invoke/MethodHandle" ∧ y.cls ≠ "java/lang/invoke/VarHandle") (as' : List Value) (hM : OMet l Z y bytes maxL ret [] rm as'.toArray h (Pv h)) (hpd : parseMethodDescriptor y.desc = some ⟨ps, rt⟩) (hlen : as'.length = ps.length) (hd : decode c.code pc = .ok (.invokestatic index, 3)) (hn : pc + 3 = n) (hsize : Ls.size = c.maxLocals)
    (hf : rm.frames + 1 ≤ R.frames) (W : Nat) (hW : (st.map fun v => v.category).sum ≤ W) (hl : W + (maxL + 11) + rm.locals ≤ R.locals) (hc : cells + rm.cells ≤ R.cells) (hs : slots + rm.slots ≤ R.slots)
    (k : ∀ T', Stand p l e R s m args below meth c T' locs (cells + rm.cells) (slots + rm.slots) → T'.heap = h → Go p e below Nd Q T' (mkF m n Ls st)) : Go p e below Nd Q T (mkF m pc Ls (as'.reverse ++ st)) :=
  g_callS X hx hZ hown eT w1 w2 w3 w4 hy as' hM hpd hlen hd hn hsize hf W hW hl hc hs fun T' h' v L X' e' q => by
    obtain ⟨rfl, rfl, rfl⟩ := q
    rw [List.append_nil] at X'
    exact k T' X' e'
theorem g_callI (X : Stand p l e R s m args below meth c T locs cells slots) (hx : p.tables.exec = Jvm.exec) (hZ : Z.Warmed39 s.vm) (hown : s.vm.findClass own = some m.cls) (eT : T.heap = h) (hy1 : y.name = "<init>") (w1 : (Cond.methodLink own index y).before a0 Z = true) (w2 : (Cond.instanceMethod y).before a0 Z = true) (w3 : (Cond.initialized y.cls).before a0 Z = true) (w4 : (Cond.code y bytes maxL none).before a0 Z = true)
    (hy : y.cls ≠ "java/lang/invoke/MethodHandle" ∧ y.cls ≠ "java/lang/invoke/VarHandle") (a : Nat) (as' : List Value) (hM : OMet l Z y bytes maxL none [] rm (.ref a :: as').toArray h Qc) (hpd : parseMethodDescriptor y.desc = some ⟨ps, rt⟩) (hlen : as'.length = ps.length) (hd : decode c.code pc = .ok (.invokespecial index, 3)) (hn : pc + 3 = n) (hsize : Ls.size = c.maxLocals)
    (hf : rm.frames + 1 ≤ R.frames) (W : Nat) (hW : (st.map fun v => v.category).sum ≤ W) (hl : W + (maxL + 11) + rm.locals ≤ R.locals) (hc : cells + rm.cells ≤ R.cells) (hs : slots + rm.slots ≤ R.slots)
    (k : ∀ T' h' v L, Stand p l e R s m args below meth c T' (locs ++ L) (cells + rm.cells) (slots + rm.slots) → T'.heap = h' → Qc v h' L → Go p e below Nd Q T' (mkF m n Ls (v.toList ++ st))) : Go p e below Nd Q T (mkF m pc Ls (as'.reverse ++ .ref a :: st)) := by
  subst hn
  obtain ⟨v, _, ⟨T1, L1, k1, n1⟩, -, X1, ⟨L, hQ1, l1, y1, z1⟩, st1⟩ := X.specialBack hx (y := y) hy1 hown (mvT hZ w1) (mvT hZ w2) (mvT hZ w4) hy (backOf (W := W) hM hZ w4 w3 hf hl) (g := mkF m pc Ls (as'.reverse ++ .ref a :: st)) rfl hsize (Steps.refl _) (a := a) (argsL := as') (rest := st) (lenOf hpd hlen) rfl (by show 2 * 0 + _ ≤ _; omega) hd (fun _ _ => ⟨rfl, eT, hc, hs⟩)
  dsimp only [Pt.U, Pt.locs, Pt.cells, Pt.slots] at X1 l1 y1 z1 st1 hQ1
  subst l1 y1 z1
  exact Go.tr st1 (k T1 _ v L X1 rfl hQ1)
theorem g_callV (X : Stand p l e R s m args below meth c T locs cells slots) (hx : p.tables.exec = Jvm.exec) (hZ : Z.Warmed39 s.vm) (hown : s.vm.findClass own = some m.cls) (eT : T.heap = h) {K : String} (w1 : (Cond.methodLink own index y).before a0 Z = true) (w2 : (Cond.declares y).before a0 Z = true) (hnf : NotFace s y) (w5 : (Cond.selects K y z).before a0 Z = true) (w6 : (Cond.instanceMethod z).before a0 Z = true) (w3 : (Cond.initialized z.cls).before a0 Z = true) (w4 : (Cond.code z bytes maxL ret).before a0 Z = true)
    (hy : y.cls ≠ "java/lang/invoke/MethodHandle" ∧ y.cls ≠ "java/lang/invoke/VarHandle") (a : Nat) (E : Exa Z h a K) (as' : List Value) (hM : OMet l Z z bytes maxL ret [] rm (.ref a :: as').toArray h Qc) (hpd : parseMethodDescriptor y.desc = some ⟨ps, rt⟩) (hlen : as'.length = ps.length) (hd : decode c.code pc = .ok (.invokevirtual index, 3)) (hn : pc + 3 = n) (hsize : Ls.size = c.maxLocals)
    (hf : rm.frames + 1 ≤ R.frames) (W : Nat) (hW : (st.map fun v => v.category).sum ≤ W) (hl : W + (maxL + 11) + rm.locals ≤ R.locals) (hc : cells + rm.cells ≤ R.cells) (hs : slots + rm.slots ≤ R.slots)
    (k : ∀ T' h' v L, Stand p l e R s m args below meth c T' (locs ++ L) (cells + rm.cells) (slots + rm.slots) → T'.heap = h' → Qc v h' L → Go p e below Nd Q T' (mkF m n Ls (v.toList ++ st))) : Go p e below Nd Q T (mkF m pc Ls (as'.reverse ++ .ref a :: st)) := by
  subst hn
  obtain ⟨cq, kq, qa, qb, qc⟩ := isOf hZ eT E
  obtain ⟨v, _, ⟨T1, L1, k1, n1⟩, -, X1, ⟨L, hQ1, l1, y1, z1⟩, st1⟩ := X.virtualBack hx (y := y) (z := z) hown (mvT hZ w1) (mvT hZ w2) hnf (mvT hZ w5) (mvT hZ w6) hy (backOf (W := W) hM hZ w4 w3 hf hl) qa qc (g := mkF m pc Ls (as'.reverse ++ .ref a :: st)) rfl hsize (Steps.refl _) (argsL := as') (rest := st) (lenOf hpd hlen) rfl (by show 2 * 0 + _ ≤ _; omega) hd (fun _ _ => ⟨rfl, eT, hc, hs⟩)
  dsimp only [Pt.U, Pt.locs, Pt.cells, Pt.slots] at X1 l1 y1 z1 st1 hQ1
  subst l1 y1 z1
  exact Go.tr st1 (k T1 _ v L X1 rfl hQ1)
theorem g_callVP (X : Stand p l e R s m args below meth c T locs cells slots) (hx : p.tables.exec = Jvm.exec) (hZ : Z.Warmed39 s.vm) (hown : s.vm.findClass own = some m.cls) (eT : T.heap = h) {K : String} (w1 : (Cond.methodLink own index y).before a0 Z = true) (w2 : (Cond.declares y).before a0 Z = true) (hnf : NotFace s y) (w5 : (Cond.selects K y z).before a0 Z = true) (w6 : (Cond.instanceMethod z).before a0 Z = true) (w3 : (Cond.initialized z.cls).before a0 Z = true) (w4 : (Cond.code z bytes maxL ret).before a0 Z = true)
    (hy : y.cls ≠ "java/lang/invoke/MethodHandle" ∧ y.cls ≠ "java/lang/invoke/VarHandle") (a : Nat) (E : Exa Z h a K) (as' : List Value) {w : Value} (hM : OMet l Z z bytes maxL ret [] rm (.ref a :: as').toArray h (Pu w h)) (hpd : parseMethodDescriptor y.desc = some ⟨ps, rt⟩) (hlen : as'.length = ps.length) (hd : decode c.code pc = .ok (.invokevirtual index, 3)) (hn : pc + 3 = n) (hsize : Ls.size = c.maxLocals)
    (hf : rm.frames + 1 ≤ R.frames) (W : Nat) (hW : (st.map fun v => v.category).sum ≤ W) (hl : W + (maxL + 11) + rm.locals ≤ R.locals) (hc : cells + rm.cells ≤ R.cells) (hs : slots + rm.slots ≤ R.slots)
    (k : ∀ T', Stand p l e R s m args below meth c T' locs (cells + rm.cells) (slots + rm.slots) → T'.heap = h → Go p e below Nd Q T' (mkF m n Ls (w :: st))) : Go p e below Nd Q T (mkF m pc Ls (as'.reverse ++ .ref a :: st)) :=
  g_callV X hx hZ hown eT w1 w2 hnf w5 w6 w3 w4 hy a E as' hM hpd hlen hd hn hsize hf W hW hl hc hs fun T' h' v L X' e' q => by
    obtain ⟨rfl, rfl, rfl⟩ := q
    rw [List.append_nil] at X'
    exact k T' X' e'
theorem own_pad {C' S' : Nat} (X : Stand p l e R s m args below meth c T locs cells slots) (h1 : cells ≤ C') (h2 : slots ≤ S') : Stand p l e R s m args below meth c T locs C' S' :=
  ⟨X.admits, X.cas, X.clock, X.frames, X.room, X.hears, X.method, X.code, X.here, X.tail, X.warmed, X.limits, X.bytes, X.same.mono h1 h2⟩
/-- a private method, called by invokevirtual; wu: any method of the same class that its objects select (so the class is no interface) -/
theorem g_callP (X : Stand p l e R s m args below meth c T locs cells slots) (hx : p.tables.exec = Jvm.exec) (hZ : Z.Warmed39 s.vm) (hown : s.vm.findClass own = some m.cls) (eT : T.heap = h) {u : MethodName} (hu : u.cls = y.cls) (w1 : (Cond.methodLink own index y).before a0 Z = true) (w2 : (Cond.instanceMethod y).before a0 Z = true) (wp : (Cond.privateMethod y).before a0 Z = true) (wu : (Cond.selects u.cls u u).before a0 Z = true) (w3 : (Cond.initialized y.cls).before a0 Z = true) (w4 : (Cond.code y bytes maxL ret).before a0 Z = true)
    (hy : y.cls ≠ "java/lang/invoke/MethodHandle" ∧ y.cls ≠ "java/lang/invoke/VarHandle") (a : Nat) {K : String} (E : Exa Z h a K) (as' : List Value) (hM : OMet l Z y bytes maxL ret [] rm (.ref a :: as').toArray h Qc) (hpd : parseMethodDescriptor y.desc = some ⟨ps, rt⟩) (hlen : as'.length = ps.length) (hd : decode c.code pc = .ok (.invokevirtual index, 3)) (hn : pc + 3 = n) (hsize : Ls.size = c.maxLocals)
    (hf : rm.frames + 1 ≤ R.frames) (W : Nat) (hW : (st.map fun v => v.category).sum ≤ W) (hl : W + (maxL + 11) + rm.locals ≤ R.locals) (hc : cells + rm.cells ≤ R.cells) (hs : slots + rm.slots ≤ R.slots)
    (k : ∀ T' h' v L, Stand p l e R s m args below meth c T' (locs ++ L) (cells + rm.cells) (slots + rm.slots) → T'.heap = h' → Qc v h' L → Go p e below Nd Q T' (mkF m n Ls (v.toList ++ st))) : Go p e below Nd Q T (mkF m pc Ls (as'.reverse ++ .ref a :: st)) := by
  subst hn
  have hpr : s.PrivateAt y := Cond.privateMethod_at (mvP hZ wp (args := args))
  have hin : (Cond.instanceMethod y).before args s = true := mvT hZ w2
  have hus : (Cond.selects u.cls u u).before args s = true := mvT hZ wu
  obtain ⟨cu, ru, mu, u1, -, u3, -, ku, u5, u6⟩ := Cond.selects_spec hus
  have hcu : s.vm.findClass y.cls = some mu.cls := by rw [← hu]; exact findClass_of_methodNamed u3
  have hsel : (Cond.selects y.cls y y).before args s = true := selects_self_of_private hcu u5 u6 hpr hin hy
  obtain ⟨cell, hcell, hob⟩ := E.cell
  obtain ⟨v, _, ⟨T1, L1, k1, n1⟩, -, X1, ⟨L, hQ1, l1, y1, z1⟩, st1⟩ := X.privateBack hx (y := y) hown (mvT hZ w1) hin hsel hpr (mvT hZ w4) hy (backOf (W := W) hM hZ w4 w3 hf hl) (g := mkF m pc Ls (as'.reverse ++ .ref a :: st)) rfl hsize (Steps.refl _) (a := a) (cell := cell) (by rw [eT]; exact hcell) hob (argsL := as') (rest := st) (lenOf hpd hlen) rfl (by show 2 * 0 + _ ≤ _; omega) hd (fun _ _ => ⟨rfl, eT, hc, hs⟩)
  dsimp only [Pt.U, Pt.locs, Pt.cells, Pt.slots] at X1 l1 y1 z1 st1 hQ1
  subst l1 y1 z1
  exact Go.tr st1 (k T1 _ v L X1 rfl hQ1)
/-! arrays: n places, place j holds f j -/
def Av (Z : State) (h : Heap) (a : Nat) (ty : FieldType) (n : Nat) (f : Nat → Value) : Prop := ∃ cl : Cell, Arr Z h a cl ty ∧ cl.slots.size = n ∧ n < 2 ^ 31 ∧ ∀ j, j < n → cl.slots[j]? = some (f j)
variable {h' : Heap} {a b : Nat} {ty : FieldType} {sz : Nat} {f : Nat → Value} {sl : Nat} {v : Value} {ws' : List Nat}
theorem own_elt {K : String} (F : Exa Z h a K) : a < h.size := F.lt
theorem Av.lt (F : Av Z h a ty sz f) : a < h.size := by obtain ⟨c, A, -⟩ := F; exact A.lt
theorem Av.ext (F : Av Z h a ty sz f) (E : Ext h h') : Av Z h' a ty sz f := by obtain ⟨c, A, r⟩ := F; exact ⟨c, A.ext E, r⟩
theorem Av.other (F : Av Z h b ty sz f) (W : Wr h h' a sl v) (q : b ≠ a) : Av Z h' b ty sz f := by obtain ⟨c, A, r⟩ := F; exact ⟨c, A.other W q, r⟩
theorem Av.keep (F : Av Z h a ty sz f) (K : Keep h h' ws') (q : a ∉ ws') : Av Z h' a ty sz f := by obtain ⟨c, A, r⟩ := F; exact ⟨c, ⟨K.2.1 a c A.1 q, A.2⟩, r⟩
theorem Av.bnd (F : Av Z h a ty sz f) : sz < 2 ^ 31 := by obtain ⟨_, _, _, b, _⟩ := F; exact b
theorem Av.congr {f' : Nat → Value} (F : Av Z h a ty sz f) (q : ∀ j, j < sz → f j = f' j) : Av Z h a ty sz f' := by
  obtain ⟨c, A, S, b, H⟩ := F; exact ⟨c, A, S, b, fun j hj => by rw [H j hj, q j hj]⟩
theorem own_in {c : Cell} {k n : Nat} {j : Int32} (hj : j = Int32.ofNat k) (hs : c.slots.size = n) (hk : k < n) (hn : n < 2 ^ 31) : ¬ (j < 0 ∨ c.slots.size ≤ j.toNatClampNeg) ∧ j.toNatClampNeg = k := by
  subst hj hs
  refine ⟨idx_in hk hn, ?_⟩
  have := len_toInt (n := k) (Nat.lt_trans hk hn)
  show (Nat.toInt32 k).toNatClampNeg = k
  simp only [Int32.toNatClampNeg, this]; rfl
theorem own_inc (i : Nat) : Int32.ofNat i + Int32.ofInt 1 = Int32.ofNat (i + 1) := (Int32.ofNat_add i 1).symm
theorem own_le {i n : Nat} (hi : i < 2 ^ 31) (hn : n < 2 ^ 31) : Int32.ofNat n ≤ Int32.ofNat i ↔ n ≤ i := by
  rw [Int32.le_iff_toInt_le, Int32.toInt_ofNat_small hi, Int32.toInt_ofNat_small hn]; omega
theorem own_idx {i : Int32} {j n : Nat} (hj : i = Int32.ofNat j) (h1 : j < n) (h2 : n < 2 ^ 31) : ¬ i < 0 ∧ i < Int32.ofNat n := by
  subst hj
  rw [Int32.lt_iff_toInt_lt, Int32.lt_iff_toInt_lt, Int32.toInt_ofNat_small (by omega), Int32.toInt_ofNat_small h2]
  constructor
  · show ¬ (j : Int) < 0; omega
  · omega
theorem Av.set (F : Av Z h a ty sz f) {k : Nat} (W : Wr h h' a k v) (hk : k < sz) : Av Z h' a ty sz (fun i => if i = k then v else f i) := by
  obtain ⟨c, A, S, b, H⟩ := F
  refine ⟨_, A.same W, by rw [sz_set]; exact S, b, fun j hj => ?_⟩
  simp only [Cell.setSlot]
  by_cases q : j = k
  · subst q; simp [S, hj]
  · rw [Array.getElem?_setIfInBounds_ne (Ne.symm q), H j hj, if_neg q]
theorem Av.new {cA : ClassId} {N : Int32} (A : Arr Z h a (newA cA ty N) ty) (hN : N = Int32.ofNat sz) (hb : sz < 2 ^ 31) : Av Z h a ty sz (fun _ => defaultValue ty) := by
  have e : N.toNatClampNeg = sz := by
    subst hN; have := len_toInt (n := sz) hb; show (Nat.toInt32 sz).toNatClampNeg = sz; simp only [Int32.toNatClampNeg, this]; rfl
  exact ⟨_, A, by rw [sz_new, e], hb, fun j hj => by simp [newA, e, hj]⟩
theorem g_len (X : Stand p l e R s m args below meth c T locs cells slots) (hx : p.tables.exec = Jvm.exec) (hZ : Z.Warmed39 s.vm) (eT : T.heap = h) (F : Av Z h a ty sz f) (hd : decode c.code pc = .ok (.arraylength, 1)) (hn : pc + 1 = n) (k : Go p e below Nd Q T (mkF m n Ls (.int (Int32.ofNat sz) :: st))) : Go p e below Nd Q T (mkF m pc Ls (.ref a :: st)) := by
  subst hn
  obtain ⟨cl, A, S, b, H⟩ := F
  refine Go.stp (fun t q => X.arraylength hx (cell := cl) (by rw [eT]; exact A.1) (State.isArrayOf_alike hZ.alike A.2.1) (g := mkF m pc Ls (.ref a :: st)) rfl rfl hd t q) ?_
  rw [S]; exact k
theorem g_iaload (X : Stand p l e R s m args below meth c T locs cells slots) (hx : p.tables.exec = Jvm.exec) (hZ : Z.Warmed39 s.vm) (eT : T.heap = h) (F : Av Z h a .int sz f) (i : Nat) {j : Int32} (hj : j = Int32.ofNat i) (hi : i < sz) (v : Value) (hv : f i = v) (hd : decode c.code pc = .ok (.iaload, 1)) (hn : pc + 1 = n) (k : Go p e below Nd Q T (mkF m n Ls (v :: st))) : Go p e below Nd Q T (mkF m pc Ls (.int j :: .ref a :: st)) := by
  subst hn hv
  obtain ⟨cl, A, S, b, H⟩ := F
  obtain ⟨q1, q2⟩ := own_in hj S hi b
  exact Go.stp (fun t q => X.iaload hx (j := j) (v := f i) (by rw [eT]; exact A.1) (State.isArrayOf_alike hZ.alike A.2.1) A.2.2 q1 (by rw [q2]; exact H i hi) (g := mkF m pc Ls (.int j :: .ref a :: st)) rfl rfl hd t q) k
theorem g_caload (X : Stand p l e R s m args below meth c T locs cells slots) (hx : p.tables.exec = Jvm.exec) (hZ : Z.Warmed39 s.vm) (eT : T.heap = h) (F : Av Z h a .char sz f) (i : Nat) {j : Int32} (hj : j = Int32.ofNat i) (hi : i < sz) (v : Value) (hv : f i = v) (hd : decode c.code pc = .ok (.caload, 1)) (hn : pc + 1 = n) (k : Go p e below Nd Q T (mkF m n Ls (v :: st))) : Go p e below Nd Q T (mkF m pc Ls (.int j :: .ref a :: st)) := by
  subst hn hv
  obtain ⟨cl, A, S, b, H⟩ := F
  obtain ⟨q1, q2⟩ := own_in hj S hi b
  exact Go.stp (fun t q => X.caload hx (j := j) (v := f i) (by rw [eT]; exact A.1) (State.isArrayOf_alike hZ.alike A.2.1) A.2.2 q1 (by rw [q2]; exact H i hi) (g := mkF m pc Ls (.int j :: .ref a :: st)) rfl rfl hd t q) k
theorem g_baload (X : Stand p l e R s m args below meth c T locs cells slots) (hx : p.tables.exec = Jvm.exec) (hZ : Z.Warmed39 s.vm) (eT : T.heap = h) (F : Av Z h a .byte sz f) (i : Nat) {j : Int32} (hj : j = Int32.ofNat i) (hi : i < sz) (v : Value) (hv : f i = v) (hd : decode c.code pc = .ok (.baload, 1)) (hn : pc + 1 = n) (k : Go p e below Nd Q T (mkF m n Ls (v :: st))) : Go p e below Nd Q T (mkF m pc Ls (.int j :: .ref a :: st)) := by
  subst hn hv
  obtain ⟨cl, A, S, b, H⟩ := F
  obtain ⟨q1, q2⟩ := own_in hj S hi b
  exact Go.stp (fun t q => X.baloadBytes hx (j := j) (v := f i) (by rw [eT]; exact A.1) (State.isArrayOf_alike hZ.alike A.2.1) A.2.2 q1 (by rw [q2]; exact H i hi) (g := mkF m pc Ls (.int j :: .ref a :: st)) rfl rfl hd t q) k
theorem g_aaload (X : Stand p l e R s m args below meth c T locs cells slots) (hx : p.tables.exec = Jvm.exec) (hZ : Z.Warmed39 s.vm) (eT : T.heap = h) (F : Av Z h a ty sz f) (hty : ty.isReference = true) (i : Nat) {j : Int32} (hj : j = Int32.ofNat i) (hi : i < sz) (v : Value) (hv : f i = v) (hd : decode c.code pc = .ok (.aaload, 1)) (hn : pc + 1 = n) (k : Go p e below Nd Q T (mkF m n Ls (v :: st))) : Go p e below Nd Q T (mkF m pc Ls (.int j :: .ref a :: st)) := by
  subst hn hv
  obtain ⟨cl, A, S, b, H⟩ := F
  obtain ⟨q1, q2⟩ := own_in hj S hi b
  exact Go.stp (fun t q => X.aaload hx (j := j) (v := f i) (by rw [eT]; exact A.1) (State.isArrayOf_alike hZ.alike A.2.1) hty A.2.2 q1 (by rw [q2]; exact H i hi) (g := mkF m pc Ls (.int j :: .ref a :: st)) rfl rfl hd t q) k
theorem g_iastore (X : Stand p l e R s m args below meth c T locs cells slots) (hx : p.tables.exec = Jvm.exec) (hZ : Z.Warmed39 s.vm) (eT : T.heap = h) (F : Av Z h a .int sz f) (i : Nat) {j x : Int32} (hj : j = Int32.ofNat i) (hi : i < sz) (hd : decode c.code pc = .ok (.iastore, 1)) (hn : pc + 1 = n)
    (k : ∀ T' h', Stand p l e R s m args below meth c T' (locs ++ [⟨a, i⟩]) cells slots → T'.heap = h' → Wr h h' a i (.int x) → Av Z h' a .int sz (fun w => if w = i then (.int x) else f w) → Go p e below Nd Q T' (mkF m n Ls st)) : Go p e below Nd Q T (mkF m pc Ls (.int x :: .int j :: .ref a :: st)) := by
  subst hn
  have F0 := F
  obtain ⟨cl, A, S, b, H⟩ := F
  obtain ⟨q1, q2⟩ := own_in hj S hi b
  obtain ⟨T1, h1, X1, e1, W1, st1⟩ := stI X hx hZ eT A (j := j) q1 (g := mkF m pc Ls (.int x :: .int j :: .ref a :: st)) rfl rfl hd
  rw [q2] at X1 W1
  exact Go.stp st1 (k T1 h1 X1 e1 W1 (F0.set W1 hi))
theorem g_castore (X : Stand p l e R s m args below meth c T locs cells slots) (hx : p.tables.exec = Jvm.exec) (hZ : Z.Warmed39 s.vm) (eT : T.heap = h) (F : Av Z h a .char sz f) (i : Nat) {j x : Int32} (hj : j = Int32.ofNat i) (hi : i < sz) (hd : decode c.code pc = .ok (.castore, 1)) (hn : pc + 1 = n)
    (k : ∀ T' h', Stand p l e R s m args below meth c T' (locs ++ [⟨a, i⟩]) cells slots → T'.heap = h' → Wr h h' a i (.int (nar .char x)) → Av Z h' a .char sz (fun w => if w = i then (.int (nar .char x)) else f w) → Go p e below Nd Q T' (mkF m n Ls st)) : Go p e below Nd Q T (mkF m pc Ls (.int x :: .int j :: .ref a :: st)) := by
  subst hn
  have F0 := F
  obtain ⟨cl, A, S, b, H⟩ := F
  obtain ⟨q1, q2⟩ := own_in hj S hi b
  obtain ⟨T1, h1, X1, e1, W1, st1⟩ := stC X hx hZ eT A (j := j) q1 (g := mkF m pc Ls (.int x :: .int j :: .ref a :: st)) rfl rfl hd
  rw [q2] at X1 W1
  exact Go.stp st1 (k T1 h1 X1 e1 W1 (F0.set W1 hi))
theorem g_bastore (X : Stand p l e R s m args below meth c T locs cells slots) (hx : p.tables.exec = Jvm.exec) (hZ : Z.Warmed39 s.vm) (eT : T.heap = h) (F : Av Z h a .byte sz f) (i : Nat) {j x : Int32} (hj : j = Int32.ofNat i) (hi : i < sz) (hd : decode c.code pc = .ok (.bastore, 1)) (hn : pc + 1 = n)
    (k : ∀ T' h', Stand p l e R s m args below meth c T' (locs ++ [⟨a, i⟩]) cells slots → T'.heap = h' → Wr h h' a i (.int (nar .byte x)) → Av Z h' a .byte sz (fun w => if w = i then (.int (nar .byte x)) else f w) → Go p e below Nd Q T' (mkF m n Ls st)) : Go p e below Nd Q T (mkF m pc Ls (.int x :: .int j :: .ref a :: st)) := by
  subst hn
  have F0 := F
  obtain ⟨cl, A, S, b, H⟩ := F
  obtain ⟨q1, q2⟩ := own_in hj S hi b
  obtain ⟨T1, h1, X1, e1, W1, st1⟩ := stB X hx hZ eT A (j := j) q1 (g := mkF m pc Ls (.int x :: .int j :: .ref a :: st)) rfl rfl hd
  rw [q2] at X1 W1
  exact Go.stp st1 (k T1 h1 X1 e1 W1 (F0.set W1 hi))
theorem g_aastore (X : Stand p l e R s m args below meth c T locs cells slots) (hx : p.tables.exec = Jvm.exec) (hZ : Z.Warmed39 s.vm) (eT : T.heap = h) (F : Av Z h a ty sz f) (hty : ty.isReference = true) (i : Nat) {j : Int32} (hj : j = Int32.ofNat i) (hi : i < sz) (hS : Sto Z h a v) (hd : decode c.code pc = .ok (.aastore, 1)) (hn : pc + 1 = n)
    (k : ∀ T' h', Stand p l e R s m args below meth c T' (locs ++ [⟨a, i⟩]) cells slots → T'.heap = h' → Wr h h' a i v → Av Z h' a ty sz (fun w => if w = i then v else f w) → Go p e below Nd Q T' (mkF m n Ls st)) : Go p e below Nd Q T (mkF m pc Ls (v :: .int j :: .ref a :: st)) := by
  subst hn
  have F0 := F
  obtain ⟨cl, A, S, b, H⟩ := F
  obtain ⟨q1, q2⟩ := own_in hj S hi b
  obtain ⟨T1, h1, X1, e1, W1, st1⟩ := stR X hx hZ eT A (j := j) q1 hty hS (g := mkF m pc Ls (v :: .int j :: .ref a :: st)) rfl rfl hd
  rw [q2] at X1 W1
  exact Go.stp st1 (k T1 h1 X1 e1 W1 (F0.set W1 hi))
theorem g_newarray (X : Stand p l e R s m args below meth c T locs cells slots) (hx : p.tables.exec = Jvm.exec) (hZ : Z.Warmed39 s.vm) {aty : ArrayType} (ty : FieldType) (hty : newarray.typeOf aty = ty) (w : (Cond.arrayClass ty).before a0 Z = true) (eT : T.heap = h) {N : Int32} (sz : Nat) (hN : N = Int32.ofNat sz) (cap : Nat) (hcap : sz ≤ cap) (hb : cap * 8 ≤ 536870912) (hc : cells + 1 ≤ R.cells) (hl : slots + cap ≤ R.slots) (hd : decode c.code pc = .ok (.newarray aty, 2)) (hn : pc + 2 = n)
    (k : ∀ T' h' a, Stand p l e R s m args below meth c T' locs (cells + 1) (slots + cap) → T'.heap = h' → a = h.size → Ext h h' → Av Z h' a ty sz (fun _ => defaultValue ty) → Go p e below Nd Q T' (mkF m n Ls (.ref a :: st))) : Go p e below Nd Q T (mkF m pc Ls (.int N :: st)) := by
  subst hn hty
  have hb' : sz < 2 ^ 31 := by omega
  have e0 := len_toInt (n := sz) hb'
  have e : N.toNatClampNeg = sz := by subst hN; show (Nat.toInt32 sz).toNatClampNeg = sz; simp only [Int32.toNatClampNeg, e0]; rfl
  have hneg : ¬ N < 0 := by subst hN; rw [Int32.lt_iff_toInt_lt]; show ¬ (Nat.toInt32 sz).toInt < 0; rw [e0]; omega
  obtain ⟨T1, h1, cA, X1, e1, E1, A1, st1⟩ := newP X hx hZ w eT (g := mkF m pc Ls (.int N :: st)) rfl hd rfl hneg (cap := cap) (by rw [e]; exact hcap) hb hc hl
  exact Go.stp st1 (k T1 h1 h.size X1 e1 rfl E1 (Av.new A1 hN hb'))
theorem g_anewarray (X : Stand p l e R s m args below meth c T locs cells slots) (hx : p.tables.exec = Jvm.exec) (hZ : Z.Warmed39 s.vm) {K : String} (hown : s.vm.findClass own = some m.cls) (w1 : (Cond.classLink own index K).before a0 Z = true) (w2 : (Cond.arrayOver (.object K)).before a0 Z = true) (eT : T.heap = h) {N : Int32} (sz : Nat) (hN : N = Int32.ofNat sz) (cap : Nat) (hcap : sz ≤ cap) (hb : cap * 8 ≤ 536870912) (hc : cells + 1 ≤ R.cells) (hl : slots + cap ≤ R.slots) (hd : decode c.code pc = .ok (.anewarray index, 3)) (hn : pc + 3 = n)
    (k : ∀ T' h' a, Stand p l e R s m args below meth c T' locs (cells + 1) (slots + cap) → T'.heap = h' → a = h.size → Ext h h' → Av Z h' a (.object K) sz (fun _ => .null) → (∃ cl : Cell, h'[a]? = some cl ∧ Ovr Z cl.cls K) → Go p e below Nd Q T' (mkF m n Ls (.ref a :: st))) : Go p e below Nd Q T (mkF m pc Ls (.int N :: st)) := by
  subst hn
  have hb' : sz < 2 ^ 31 := by omega
  have e0 := len_toInt (n := sz) hb'
  have e : N.toNatClampNeg = sz := by subst hN; show (Nat.toInt32 sz).toNatClampNeg = sz; simp only [Int32.toNatClampNeg, e0]; rfl
  have hneg : ¬ N < 0 := by subst hN; rw [Int32.lt_iff_toInt_lt]; show ¬ (Nat.toInt32 sz).toInt < 0; rw [e0]; omega
  obtain ⟨T1, h1, cA, X1, e1, E1, A1, O1, st1⟩ := newR X hx hZ hown w1 w2 eT (g := mkF m pc Ls (.int N :: st)) rfl hd rfl hneg (cap := cap) (by rw [e]; exact hcap) hb hc hl
  exact Go.stp st1 (k T1 h1 h.size X1 e1 rfl E1 (Av.new A1 hN hb') ⟨_, A1.1, O1⟩)
theorem own_arv {f : Nat → Value} {sz : Nat} (F : Av Z h a ty sz f) (hf : ∀ j, j < sz → fits ty (f j) = true) : ∃ k, Arv Z h a k ty (Int32.ofNat sz) ((List.range sz).map f) .null := by
  obtain ⟨cl, A, S, b, H⟩ := F
  have e0 := len_toInt (n := sz) b
  have g : ∀ j, j < sz → ((List.range sz).map f).getD j .null = f j := fun j hj => by simp [List.getD_eq_getElem?_getD, hj]
  refine ⟨cl.cls, cl, A, rfl, ?_, ?_, fun j hj => ?_, fun j hj => ?_⟩
  · rw [S]; show sz = (Nat.toInt32 sz).toNatClampNeg; simp only [Int32.toNatClampNeg, e0]; rfl
  · rw [Int32.lt_iff_toInt_lt]; show ¬ (Nat.toInt32 sz).toInt < 0; rw [e0]; omega
  · rw [S] at hj; rw [g j hj]; exact H j hj
  · rw [S] at hj; rw [g j hj]; exact hf j hj
theorem own_stoL : ∀ (us : List Value), (∀ u ∈ us, Sto Z h a u) → StoL Z h a us
  | [], _ => trivial
  | u :: r, q => ⟨q u (by simp), own_stoL r (fun x hx => q x (by simp [hx]))⟩
theorem own_nat {k : Nat} (hk : k < 2 ^ 31) : (Int32.ofNat k).toNatClampNeg = k ∧ ¬ Int32.ofNat k < 0 := by
  have e0 := len_toInt (n := k) hk
  constructor
  · show (Nat.toInt32 k).toNatClampNeg = k; simp only [Int32.toNatClampNeg, e0]; rfl
  · rw [Int32.lt_iff_toInt_lt]; show ¬ (Nat.toInt32 k).toInt < 0; rw [e0]; omega
/-- System.arraycopy within bounds, what is copied fitting -/
theorem g_acopy (X : Stand p l e R s m args below meth c T locs cells slots) (hx : p.tables.exec = Jvm.exec) (hZ : Z.Warmed39 s.vm) (hown : s.vm.findClass own = some m.cls) (w1 : (Cond.methodLink own index ⟨"java/lang/System", "arraycopy", "(Ljava/lang/Object;ILjava/lang/Object;II)V"⟩).before a0 Z = true) (w2 : (Cond.native ⟨"java/lang/System", "arraycopy", "(Ljava/lang/Object;ILjava/lang/Object;II)V"⟩).before a0 Z = true) (w3 : (Cond.static ⟨"java/lang/System", "arraycopy", "(Ljava/lang/Object;ILjava/lang/Object;II)V"⟩).before a0 Z = true) (w4 : (Cond.initialized "java/lang/System").before a0 Z = true) (eT : T.heap = h)
    {f' : Nat → Value} {sz' : Nat} (A : Av Z h a ty sz f) (B : Av Z h b ty sz' f') (hfA : ∀ j, j < sz → fits ty (f j) = true) (hfB : ∀ j, j < sz' → fits ty (f' j) = true) (sp dp nn : Nat) (hty : refKind ty = false ∨ (refKind ty = true ∧ ∀ i, i < nn → Sto Z h b (f (sp + i)))) (h4 : sp + nn ≤ sz) (h5 : dp + nn ≤ sz')
    {vs vd vn : Int32} (hvs : vs = Int32.ofNat sp) (hvd : vd = Int32.ofNat dp) (hvn : vn = Int32.ofNat nn) {n0 : Nat} (N : Fr n0 locs) (ge : n0 ≤ b) (hd : decode c.code pc = .ok (.invokestatic index, 3)) (hn : pc + 3 = n) (hsize : Ls.size = c.maxLocals) (hf : 1 ≤ R.frames) (W : Nat) (hW : (st.map fun v => v.category).sum ≤ W) (hlo : W + (nativeFrameWords "java/lang/System" "arraycopy" 5 + 11) ≤ R.locals)
    (k : ∀ T' h' L, Stand p l e R s m args below meth c T' L cells slots → T'.heap = h' → Fr n0 L → Keep h h' [b] → Av Z h' b ty sz' (fun j => if dp ≤ j ∧ j < dp + nn then f (sp + (j - dp)) else f' j) → Go p e below Nd Q T' (mkF m n Ls st)) : Go p e below Nd Q T (mkF m pc Ls (.int vn :: .int vd :: .ref b :: .int vs :: .ref a :: st)) := by
  subst hn hvs hvd hvn
  have bA := A.bnd
  have bB := B.bnd
  obtain ⟨kA, VA⟩ := own_arv A hfA
  obtain ⟨kB, VB⟩ := own_arv B hfB
  obtain ⟨s1, s2⟩ := own_nat (k := sp) (by omega)
  obtain ⟨d1, d2⟩ := own_nat (k := dp) (by omega)
  obtain ⟨l1, l2⟩ := own_nat (k := nn) (by omega)
  obtain ⟨zA, -⟩ := own_nat (k := sz) bA
  obtain ⟨zB, -⟩ := own_nat (k := sz') bB
  have hus : (List.range nn).map (fun i => f (sp + i)) = (List.range (Int32.ofNat nn).toNatClampNeg).map fun i => ((List.range sz).map f).getD ((Int32.ofNat sp).toNatClampNeg + i) .null := by
    rw [l1, s1]
    apply List.map_congr_left
    intro i hi
    have := List.mem_range.mp hi
    simp [List.getD_eq_getElem?_getD, show sp + i < sz by omega]
  obtain ⟨T1, h1, L1, X1, e1, N1, K1, V1, st1⟩ := cpA X hx hZ hown w1 w2 w3 w4 eT (us := (List.range nn).map (fun i => f (sp + i))) VA VB (by
      rcases hty with q | ⟨q1, q2⟩
      · exact Or.inl ⟨rfl, q⟩
      · refine Or.inr ⟨q1, q1, own_stoL _ (fun u hu => ?_)⟩
        obtain ⟨i, hi, rfl⟩ := List.mem_map.mp hu
        exact q2 i (List.mem_range.mp hi)) s2 d2 l2 (by rw [s1, l1, zA]; exact h4) (by rw [d1, l1, zB]; exact h5) hus (by rw [d1, l1]; simpa using h5) N ge (g := mkF m pc Ls (.int (Int32.ofNat nn) :: .int (Int32.ofNat dp) :: .ref b :: .int (Int32.ofNat sp) :: .ref a :: st)) rfl hsize rfl hd hf (W := W) (by show 2 * 0 + _ ≤ _; omega) hlo
  refine Go.stp st1 (k T1 h1 L1 X1 e1 N1 K1 ?_)
  obtain ⟨cl, A1, -, S1, -, H1, -⟩ := V1
  rw [zB] at S1
  refine ⟨cl, A1, S1, bB, fun j hj => ?_⟩
  rw [H1 j (by rw [S1]; exact hj), d1, l1]
  congr 1
  simp only [List.getD_eq_getElem?_getD]
  by_cases c1 : j < dp
  · rw [if_neg (by omega), List.append_assoc, List.getElem?_append_left (by simp; omega)]
    simp [List.getElem?_take, c1, hj]
  · by_cases c2 : j < dp + nn
    · rw [if_pos ⟨by omega, c2⟩, List.getElem?_append_left (by simp; omega), List.getElem?_append_right (by simp; omega)]
      simp [show min dp sz' = dp by omega, show j - dp < nn by omega]
    · rw [if_neg (by omega), List.getElem?_append_right (by simp; omega)]
      simp [show min dp sz' = dp by omega, List.getElem?_drop, show dp + nn + (j - (dp + nn)) = j by omega, hj]
end OwnKit

/-! numbers: -q as a long; decimal digits -/
def own_neg (q : Nat) : Int64 := Int64.ofInt (-(q : Int))
theorem own_neg_toInt {q : Nat} (h : q ≤ 9223372036854775808) : (own_neg q).toInt = -(q : Int) := by
  unfold own_neg
  rw [Int64.toInt_ofInt, show (Int64.size : Nat) = 18446744073709551616 from rfl]
  rw [Int.bmod_def]; omega
theorem own_neg_div {q : Nat} (h : q ≤ 9223372036854775808) : own_neg q / 10 = own_neg (q / 10) := by
  apply Int64.toInt_inj.mp
  rw [own_neg_toInt (by omega), Int64.toInt_div, own_neg_toInt h]
  have e : (-(q : Int)).tdiv (10 : Int64).toInt = -((q / 10 : Nat) : Int) := by
    show (-(q : Int)).tdiv 10 = _
    rw [Int.neg_tdiv]; simp
  rw [e, Int.bmod_def]; omega
theorem own_rem_toInt {q : Nat} (h : q ≤ 9223372036854775808) : (own_neg q - own_neg q / 10 * 10).toInt = -((q % 10 : Nat) : Int) := by
  rw [own_neg_div h]
  have a1 := own_neg_toInt h
  have a2 := own_neg_toInt (q := q / 10) (by omega)
  have b1 := c_lmul (own_neg (q / 10)) 10
  have b2 := c_lsub (own_neg q) (own_neg (q / 10) * 10)
  have r1 := rng64 (own_neg (q / 10) * 10)
  have r2 := rng64 (own_neg q - own_neg (q / 10) * 10)
  rw [a2, show (10 : Int64).toInt = 10 from rfl] at b1
  rw [a1] at b2
  omega
theorem own_narb {c : Nat} (h : c < 128) : (Int32.ofNat c).toInt8.toInt32 = Int32.ofNat c := by
  have a := c_i2b (Int32.ofNat c)
  apply Int32.toInt_inj.mp
  rw [Int32.toInt_ofNat_small (by omega)] at a ⊢
  omega
theorem own_digit {q : Nat} (h : q ≤ 9223372036854775808) : ((48 : Int64) - (own_neg q - own_neg q / 10 * 10)).toInt32.toInt8.toInt32 = Int32.ofNat (48 + q % 10) := by
  have a1 := own_rem_toInt h
  generalize own_neg q - own_neg q / 10 * 10 = r at *
  have b1 := c_lsub 48 r
  have r1 := rng64 ((48 : Int64) - r)
  rw [a1, show (48 : Int64).toInt = 48 from rfl] at b1
  have b2 := c_l2i ((48 : Int64) - r)
  have r2 := rng32 ((48 : Int64) - r).toInt32
  have e : ((48 : Int64) - r).toInt32 = Int32.ofNat (48 + q % 10) := by
    apply Int32.toInt_inj.mp
    rw [Int32.toInt_ofNat_small (by omega)]
    omega
  rw [e]; exact own_narb (by omega)
theorem own_cmp_ge (x y : Int64) : 0 ≤ XT.cmpL x y ↔ ¬ x < y := by
  unfold XT.cmpL
  by_cases h1 : y < x
  · rw [if_pos h1]; constructor
    · intro _ h2; rw [Int64.lt_iff_toInt_lt] at *; omega
    · intro _; decide
  · rw [if_neg h1]
    by_cases h2 : x = y
    · rw [if_pos h2]; constructor
      · intro _ h3; rw [h2, Int64.lt_iff_toInt_lt] at h3; omega
      · intro _; decide
    · rw [if_neg h2]; constructor
      · intro h3; exact absurd h3 (by decide)
      · intro h3; exfalso; apply h2; apply Int64.toInt_inj.mp; rw [Int64.lt_iff_toInt_lt] at *; omega
theorem own_cmp_le (x y : Int64) : XT.cmpL x y ≤ 0 ↔ ¬ y < x := by
  unfold XT.cmpL
  by_cases h1 : y < x
  · rw [if_pos h1]; constructor
    · intro h2; exact absurd h2 (by decide)
    · intro h2; exact absurd h1 h2
  · rw [if_neg h1]; constructor
    · intro _; exact h1
    · intro _; split <;> decide
theorem own_cmp_eq (x y : Int64) : XT.cmpL x y = 0 ↔ x = y := by
  unfold XT.cmpL
  by_cases h1 : y < x
  · rw [if_pos h1]; constructor
    · intro h2; exact absurd h2 (by decide)
    · intro h2; rw [h2, Int64.lt_iff_toInt_lt] at h1; omega
  · rw [if_neg h1]; constructor
    · intro h2; split at h2
      · assumption
      · exact absurd h2 (by decide)
    · intro h2; rw [if_pos h2]
theorem own_neg_zero {q : Nat} (h : q ≤ 9223372036854775808) : own_neg q = 0 ↔ q = 0 := by
  constructor
  · intro e; have := congrArg Int64.toInt e; rw [own_neg_toInt h] at this; have : (0 : Int64).toInt = 0 := rfl; omega
  · intro e; subst e; rfl
def own_dig (m j : Nat) : Nat := m / 10 ^ j % 10
theorem own_dig_lt (m j : Nat) : own_dig m j < 10 := Nat.mod_lt _ (by decide)
def own_nd (m : Nat) : Nat :=
  if m < 10 then 1 else if m < 100 then 2 else if m < 1000 then 3 else if m < 10000 then 4 else if m < 100000 then 5 else if m < 1000000 then 6 else if m < 10000000 then 7 else if m < 100000000 then 8 else if m < 1000000000 then 9 else if m < 10000000000 then 10 else if m < 100000000000 then 11 else if m < 1000000000000 then 12 else if m < 10000000000000 then 13 else if m < 100000000000000 then 14 else if m < 1000000000000000 then 15 else if m < 10000000000000000 then 16 else if m < 100000000000000000 then 17 else if m < 1000000000000000000 then 18 else 19
theorem own_nd_spec (m : Nat) (h : m ≤ 9223372036854775808) : 1 ≤ own_nd m ∧ own_nd m ≤ 19 ∧ m < 10 ^ own_nd m ∧ (own_nd m = 1 ∨ 10 ^ (own_nd m - 1) ≤ m) := by
  have q : ∀ k : Nat, 1 ≤ k → k ≤ 19 → m < 10 ^ k → (k = 1 ∨ 10 ^ (k - 1) ≤ m) → own_nd m = k → 1 ≤ own_nd m ∧ own_nd m ≤ 19 ∧ m < 10 ^ own_nd m ∧ (own_nd m = 1 ∨ 10 ^ (own_nd m - 1) ≤ m) := fun k a b c d e => by rw [e]; exact ⟨a, b, c, d⟩
  by_cases h1 : m < 10
  · exact q 1 (by decide) (by decide) (by omega) (Or.inl rfl) (by simp only [own_nd, h1, if_true])
  by_cases h2 : m < 100
  · exact q 2 (by decide) (by decide) (by omega) (Or.inr (by omega)) (by simp only [own_nd, h1, h2, if_true, if_false])
  by_cases h3 : m < 1000
  · exact q 3 (by decide) (by decide) (by omega) (Or.inr (by omega)) (by simp only [own_nd, h1, h2, h3, if_true, if_false])
  by_cases h4 : m < 10000
  · exact q 4 (by decide) (by decide) (by omega) (Or.inr (by omega)) (by simp only [own_nd, h1, h2, h3, h4, if_true, if_false])
  by_cases h5 : m < 100000
  · exact q 5 (by decide) (by decide) (by omega) (Or.inr (by omega)) (by simp only [own_nd, h1, h2, h3, h4, h5, if_true, if_false])
  by_cases h6 : m < 1000000
  · exact q 6 (by decide) (by decide) (by omega) (Or.inr (by omega)) (by simp only [own_nd, h1, h2, h3, h4, h5, h6, if_true, if_false])
  by_cases h7 : m < 10000000
  · exact q 7 (by decide) (by decide) (by omega) (Or.inr (by omega)) (by simp only [own_nd, h1, h2, h3, h4, h5, h6, h7, if_true, if_false])
  by_cases h8 : m < 100000000
  · exact q 8 (by decide) (by decide) (by omega) (Or.inr (by omega)) (by simp only [own_nd, h1, h2, h3, h4, h5, h6, h7, h8, if_true, if_false])
  by_cases h9 : m < 1000000000
  · exact q 9 (by decide) (by decide) (by omega) (Or.inr (by omega)) (by simp only [own_nd, h1, h2, h3, h4, h5, h6, h7, h8, h9, if_true, if_false])
  by_cases h10 : m < 10000000000
  · exact q 10 (by decide) (by decide) (by omega) (Or.inr (by omega)) (by simp only [own_nd, h1, h2, h3, h4, h5, h6, h7, h8, h9, h10, if_true, if_false])
  by_cases h11 : m < 100000000000
  · exact q 11 (by decide) (by decide) (by omega) (Or.inr (by omega)) (by simp only [own_nd, h1, h2, h3, h4, h5, h6, h7, h8, h9, h10, h11, if_true, if_false])
  by_cases h12 : m < 1000000000000
  · exact q 12 (by decide) (by decide) (by omega) (Or.inr (by omega)) (by simp only [own_nd, h1, h2, h3, h4, h5, h6, h7, h8, h9, h10, h11, h12, if_true, if_false])
  by_cases h13 : m < 10000000000000
  · exact q 13 (by decide) (by decide) (by omega) (Or.inr (by omega)) (by simp only [own_nd, h1, h2, h3, h4, h5, h6, h7, h8, h9, h10, h11, h12, h13, if_true, if_false])
  by_cases h14 : m < 100000000000000
  · exact q 14 (by decide) (by decide) (by omega) (Or.inr (by omega)) (by simp only [own_nd, h1, h2, h3, h4, h5, h6, h7, h8, h9, h10, h11, h12, h13, h14, if_true, if_false])
  by_cases h15 : m < 1000000000000000
  · exact q 15 (by decide) (by decide) (by omega) (Or.inr (by omega)) (by simp only [own_nd, h1, h2, h3, h4, h5, h6, h7, h8, h9, h10, h11, h12, h13, h14, h15, if_true, if_false])
  by_cases h16 : m < 10000000000000000
  · exact q 16 (by decide) (by decide) (by omega) (Or.inr (by omega)) (by simp only [own_nd, h1, h2, h3, h4, h5, h6, h7, h8, h9, h10, h11, h12, h13, h14, h15, h16, if_true, if_false])
  by_cases h17 : m < 100000000000000000
  · exact q 17 (by decide) (by decide) (by omega) (Or.inr (by omega)) (by simp only [own_nd, h1, h2, h3, h4, h5, h6, h7, h8, h9, h10, h11, h12, h13, h14, h15, h16, h17, if_true, if_false])
  by_cases h18 : m < 1000000000000000000
  · exact q 18 (by decide) (by decide) (by omega) (Or.inr (by omega)) (by simp only [own_nd, h1, h2, h3, h4, h5, h6, h7, h8, h9, h10, h11, h12, h13, h14, h15, h16, h17, h18, if_true, if_false])
  exact q 19 (by decide) (by decide) (by omega) (Or.inr (by omega)) (by simp only [own_nd, h1, h2, h3, h4, h5, h6, h7, h8, h9, h10, h11, h12, h13, h14, h15, h16, h17, h18, if_true, if_false])
theorem own_pow (m j : Nat) : m / 10 ^ j / 10 = m / 10 ^ (j + 1) := by rw [Nat.div_div_eq_div_mul, Nat.pow_succ]
theorem own_quot_le (m j : Nat) (h : m ≤ 9223372036854775808) : m / 10 ^ j ≤ 9223372036854775808 := Nat.le_trans (Nat.div_le_self _ _) h
theorem own_quot_zero (m : Nat) (h : m ≤ 9223372036854775808) : m / 10 ^ own_nd m = 0 := Nat.div_eq_of_lt (own_nd_spec m h).2.2.1
theorem own_quot_pos (m j : Nat) (h : m ≤ 9223372036854775808) (hj : j + 1 < own_nd m) : ¬ m / 10 ^ (j + 1) = 0 := by
  have q := own_nd_spec m h
  have h1 : 10 ^ (own_nd m - 1) ≤ m := q.2.2.2.resolve_left (by omega)
  have h2 : 10 ^ (j + 1) ≤ 10 ^ (own_nd m - 1) := Nat.pow_le_pow_right (by decide) (by omega)
  intro h3
  have := Nat.div_pos (Nat.le_trans h2 h1) (Nat.pow_pos (n := j + 1) (show 0 < 10 by decide))
  omega
theorem own_lead (m : Nat) (h : m ≤ 9223372036854775808) (h0 : own_dig m (own_nd m - 1) = 0) : m = 0 ∧ own_nd m = 1 := by
  have q := own_nd_spec m h
  have h1 : m / 10 ^ (own_nd m - 1) < 10 := by
    rw [Nat.div_lt_iff_lt_mul (Nat.pow_pos (by decide))]
    have : 10 * 10 ^ (own_nd m - 1) = 10 ^ own_nd m := by rw [Nat.mul_comm, ← Nat.pow_succ]; congr 1; omega
    omega
  have h2 : m / 10 ^ (own_nd m - 1) = 0 := by unfold own_dig at h0; rw [Nat.mod_eq_of_lt h1] at h0; exact h0
  rcases q.2.2.2 with e | e
  · rw [e] at h2; simp at h2; exact ⟨h2, e⟩
  · have := Nat.div_pos e (Nat.pow_pos (n := own_nd m - 1) (show 0 < 10 by decide)); omega
/-- the part of m that its first r digits spell -/
theorem own_pre (m r : Nat) (h : m ≤ 9223372036854775808) (hr : r < own_nd m) : 10 * (m / 10 ^ (own_nd m - r)) + own_dig m (own_nd m - 1 - r) = m / 10 ^ (own_nd m - (r + 1)) := by
  have e : own_nd m - r = (own_nd m - (r + 1)) + 1 := by omega
  have e2 : own_nd m - 1 - r = own_nd m - (r + 1) := by omega
  rw [e, ← own_pow, e2]; unfold own_dig; omega
theorem own_acc {P d : Nat} (h : 10 * P + d ≤ 9223372036854775808) (hd : d < 10) : own_neg P * 10 - (Int32.ofNat d).toInt64 = own_neg (10 * P + d) := by
  apply Int64.toInt_inj.mp
  rw [own_neg_toInt h]
  have a1 := own_neg_toInt (q := P) (by omega)
  have b1 := c_lmul (own_neg P) 10
  have b2 := c_lsub (own_neg P * 10) (Int32.ofNat d).toInt64
  have r1 := rng64 (own_neg P * 10)
  have r2 := rng64 (own_neg P * 10 - (Int32.ofNat d).toInt64)
  have d1 : (Int32.ofNat d).toInt64.toInt = d := by rw [c_i2l, Int32.toInt_ofNat_small (by omega)]
  rw [a1, show (10 : Int64).toInt = 10 from rfl] at b1
  rw [d1] at b2
  omega
theorem own_rng {P d : Nat} (h : 10 * P + d ≤ 9223372036854775808) (hd : d < 10) : ¬ own_neg P < ((-9223372036854775808 : Int64) + (Int32.ofNat d).toInt64) / 10 := by
  have a1 := own_neg_toInt (q := P) (by omega)
  have d1 : (Int32.ofNat d).toInt64.toInt = d := by rw [c_i2l, Int32.toInt_ofNat_small (by omega)]
  have b1 := c_ladd (-9223372036854775808) (Int32.ofNat d).toInt64
  have r1 := rng64 ((-9223372036854775808 : Int64) + (Int32.ofNat d).toInt64)
  rw [d1, show (-9223372036854775808 : Int64).toInt = -9223372036854775808 from rfl] at b1
  rw [Int64.lt_iff_toInt_lt, a1, Int64.toInt_div]
  have e : ((-9223372036854775808 : Int64) + (Int32.ofNat d).toInt64).toInt = -((9223372036854775808 - d : Nat) : Int) := by omega
  rw [e, show (10 : Int64).toInt = 10 from rfl, Int.neg_tdiv, show ((9223372036854775808 - d : Nat) : Int).tdiv 10 = ((9223372036854775808 - d) / 10 : Nat) by simp, Int.bmod_def]
  omega

theorem pd_0 : parseMethodDescriptor "(J[BI)I" = some ⟨[.long, .array (.byte), .int], some (.int)⟩ := by decide +kernel
theorem pd_1 : parseMethodDescriptor "(J)I" = some ⟨[.long], some (.int)⟩ := by decide +kernel
theorem pd_2 : parseMethodDescriptor "([BII)J" = some ⟨[.array (.byte), .int, .int], some (.long)⟩ := by decide +kernel
theorem own_lt {i n : Nat} (hi : i < 2 ^ 31) (hn : n < 2 ^ 31) : Int32.ofNat i < Int32.ofNat n ↔ i < n := by
  rw [Int32.lt_iff_toInt_lt, Int32.toInt_ofNat_small hi, Int32.toInt_ofNat_small hn]; omega
theorem own_eq {i n : Nat} (hi : i < 2 ^ 31) (hn : n < 2 ^ 31) : Int32.ofNat i = Int32.ofNat n ↔ i = n := by
  constructor
  · intro h; have := congrArg Int32.toInt h; rw [Int32.toInt_ofNat_small hi, Int32.toInt_ofNat_small hn] at this; omega
  · intro h; rw [h]
theorem own_sub (a b : Nat) (h : b ≤ a) : Int32.ofNat a - Int32.ofNat b = Int32.ofNat (a - b) := (Int32.ofNat_sub a b h).symm
theorem own_add (a b : Nat) : Int32.ofNat a + Int32.ofNat b = Int32.ofNat (a + b) := (Int32.ofNat_add a b).symm
theorem own_dec (a : Nat) (h : 1 ≤ a) : Int32.ofNat a + Int32.ofInt (-1) = Int32.ofNat (a - 1) := by
  apply Int32.toInt_inj.mp
  have := c_iadd (Int32.ofNat a) (Int32.ofInt (-1))
  have e : (Int32.ofInt (-1)).toInt = -1 := by decide
  rw [← own_sub a 1 h]
  have q := c_isub (Int32.ofNat a) (Int32.ofNat 1)
  have e2 : (Int32.ofNat 1).toInt = 1 := by decide
  have r1 := rng32 (Int32.ofNat a + Int32.ofInt (-1))
  have r2 := rng32 (Int32.ofNat a - Int32.ofNat 1)
  rw [e] at this; rw [e2] at q
  omega
/-- place r of the digits when k pairs are swapped -/
def own_sw (n k r : Nat) : Nat := if r < k ∨ n ≤ r + k then n - 1 - r else r
/-- the digits from 'first' on, over g -/
def own_put (g : Nat → Value) (first n : Nat) (f : Nat → Nat) (x : Nat) : Value := if first ≤ x ∧ x < first + n then .int (Int32.ofNat (48 + f (x - first))) else g x
theorem own_put_in {g : Nat → Value} {first n r : Nat} {f : Nat → Nat} (h : r < n) : own_put g first n f (first + r) = .int (Int32.ofNat (48 + f r)) := by
  unfold own_put; rw [if_pos ⟨by omega, by omega⟩, Nat.add_sub_cancel_left]
theorem own_put_out {g : Nat → Value} {first n x : Nat} {f : Nat → Nat} (h : x < first ∨ first + n ≤ x) : own_put g first n f x = g x := by
  unfold own_put; rw [if_neg (by omega)]

theorem d2_0 : decode method_2_code 0 = .ok (.lload_n 0, 1) := by decide +kernel
theorem d2_1 : decode method_2_code 1 = .ok (.ldc2_w 7, 3) := by decide +kernel
theorem d2_4 : decode method_2_code 4 = .ok (.lcmp, 1) := by decide +kernel
theorem d2_5 : decode method_2_code 5 = .ok (.ifCond .le 5, 3) := by decide +kernel
theorem d2_8 : decode method_2_code 8 = .ok (.iconst 1, 1) := by decide +kernel
theorem d2_9 : decode method_2_code 9 = .ok (.ireturn, 1) := by decide +kernel
theorem d2_10 : decode method_2_code 10 = .ok (.lload_n 0, 1) := by decide +kernel
theorem d2_11 : decode method_2_code 11 = .ok (.ldc2_w 9, 3) := by decide +kernel
theorem d2_14 : decode method_2_code 14 = .ok (.lcmp, 1) := by decide +kernel
theorem d2_15 : decode method_2_code 15 = .ok (.ifCond .le 5, 3) := by decide +kernel
theorem d2_18 : decode method_2_code 18 = .ok (.iconst 2, 1) := by decide +kernel
theorem d2_19 : decode method_2_code 19 = .ok (.ireturn, 1) := by decide +kernel
theorem d2_20 : decode method_2_code 20 = .ok (.lload_n 0, 1) := by decide +kernel
theorem d2_21 : decode method_2_code 21 = .ok (.ldc2_w 11, 3) := by decide +kernel
theorem d2_24 : decode method_2_code 24 = .ok (.lcmp, 1) := by decide +kernel
theorem d2_25 : decode method_2_code 25 = .ok (.ifCond .le 5, 3) := by decide +kernel
theorem d2_28 : decode method_2_code 28 = .ok (.iconst 3, 1) := by decide +kernel
theorem d2_29 : decode method_2_code 29 = .ok (.ireturn, 1) := by decide +kernel
theorem d2_30 : decode method_2_code 30 = .ok (.lload_n 0, 1) := by decide +kernel
theorem d2_31 : decode method_2_code 31 = .ok (.ldc2_w 13, 3) := by decide +kernel
theorem d2_34 : decode method_2_code 34 = .ok (.lcmp, 1) := by decide +kernel
theorem d2_35 : decode method_2_code 35 = .ok (.ifCond .le 5, 3) := by decide +kernel
theorem d2_38 : decode method_2_code 38 = .ok (.iconst 4, 1) := by decide +kernel
theorem d2_39 : decode method_2_code 39 = .ok (.ireturn, 1) := by decide +kernel
theorem d2_40 : decode method_2_code 40 = .ok (.lload_n 0, 1) := by decide +kernel
theorem d2_41 : decode method_2_code 41 = .ok (.ldc2_w 15, 3) := by decide +kernel
theorem d2_44 : decode method_2_code 44 = .ok (.lcmp, 1) := by decide +kernel
theorem d2_45 : decode method_2_code 45 = .ok (.ifCond .le 5, 3) := by decide +kernel
theorem d2_48 : decode method_2_code 48 = .ok (.iconst 5, 1) := by decide +kernel
theorem d2_49 : decode method_2_code 49 = .ok (.ireturn, 1) := by decide +kernel
theorem d2_50 : decode method_2_code 50 = .ok (.lload_n 0, 1) := by decide +kernel
theorem d2_51 : decode method_2_code 51 = .ok (.ldc2_w 17, 3) := by decide +kernel
theorem d2_54 : decode method_2_code 54 = .ok (.lcmp, 1) := by decide +kernel
theorem d2_55 : decode method_2_code 55 = .ok (.ifCond .le 6, 3) := by decide +kernel
theorem d2_58 : decode method_2_code 58 = .ok (.bipush 6, 2) := by decide +kernel
theorem d2_60 : decode method_2_code 60 = .ok (.ireturn, 1) := by decide +kernel
theorem d2_61 : decode method_2_code 61 = .ok (.lload_n 0, 1) := by decide +kernel
theorem d2_62 : decode method_2_code 62 = .ok (.ldc2_w 19, 3) := by decide +kernel
theorem d2_65 : decode method_2_code 65 = .ok (.lcmp, 1) := by decide +kernel
theorem d2_66 : decode method_2_code 66 = .ok (.ifCond .le 6, 3) := by decide +kernel
theorem d2_69 : decode method_2_code 69 = .ok (.bipush 7, 2) := by decide +kernel
theorem d2_71 : decode method_2_code 71 = .ok (.ireturn, 1) := by decide +kernel
theorem d2_72 : decode method_2_code 72 = .ok (.lload_n 0, 1) := by decide +kernel
theorem d2_73 : decode method_2_code 73 = .ok (.ldc2_w 21, 3) := by decide +kernel
theorem d2_76 : decode method_2_code 76 = .ok (.lcmp, 1) := by decide +kernel
theorem d2_77 : decode method_2_code 77 = .ok (.ifCond .le 6, 3) := by decide +kernel
theorem d2_80 : decode method_2_code 80 = .ok (.bipush 8, 2) := by decide +kernel
theorem d2_82 : decode method_2_code 82 = .ok (.ireturn, 1) := by decide +kernel
theorem d2_83 : decode method_2_code 83 = .ok (.lload_n 0, 1) := by decide +kernel
theorem d2_84 : decode method_2_code 84 = .ok (.ldc2_w 23, 3) := by decide +kernel
theorem d2_87 : decode method_2_code 87 = .ok (.lcmp, 1) := by decide +kernel
theorem d2_88 : decode method_2_code 88 = .ok (.ifCond .le 6, 3) := by decide +kernel
theorem d2_91 : decode method_2_code 91 = .ok (.bipush 9, 2) := by decide +kernel
theorem d2_93 : decode method_2_code 93 = .ok (.ireturn, 1) := by decide +kernel
theorem d2_94 : decode method_2_code 94 = .ok (.lload_n 0, 1) := by decide +kernel
theorem d2_95 : decode method_2_code 95 = .ok (.ldc2_w 25, 3) := by decide +kernel
theorem d2_98 : decode method_2_code 98 = .ok (.lcmp, 1) := by decide +kernel
theorem d2_99 : decode method_2_code 99 = .ok (.ifCond .le 6, 3) := by decide +kernel
theorem d2_102 : decode method_2_code 102 = .ok (.bipush 10, 2) := by decide +kernel
theorem d2_104 : decode method_2_code 104 = .ok (.ireturn, 1) := by decide +kernel
theorem d2_105 : decode method_2_code 105 = .ok (.lload_n 0, 1) := by decide +kernel
theorem d2_106 : decode method_2_code 106 = .ok (.ldc2_w 27, 3) := by decide +kernel
theorem d2_109 : decode method_2_code 109 = .ok (.lcmp, 1) := by decide +kernel
theorem d2_110 : decode method_2_code 110 = .ok (.ifCond .le 6, 3) := by decide +kernel
theorem d2_113 : decode method_2_code 113 = .ok (.bipush 11, 2) := by decide +kernel
theorem d2_115 : decode method_2_code 115 = .ok (.ireturn, 1) := by decide +kernel
theorem d2_116 : decode method_2_code 116 = .ok (.lload_n 0, 1) := by decide +kernel
theorem d2_117 : decode method_2_code 117 = .ok (.ldc2_w 29, 3) := by decide +kernel
theorem d2_120 : decode method_2_code 120 = .ok (.lcmp, 1) := by decide +kernel
theorem d2_121 : decode method_2_code 121 = .ok (.ifCond .le 6, 3) := by decide +kernel
theorem d2_124 : decode method_2_code 124 = .ok (.bipush 12, 2) := by decide +kernel
theorem d2_126 : decode method_2_code 126 = .ok (.ireturn, 1) := by decide +kernel
theorem d2_127 : decode method_2_code 127 = .ok (.lload_n 0, 1) := by decide +kernel
theorem d2_128 : decode method_2_code 128 = .ok (.ldc2_w 31, 3) := by decide +kernel
theorem d2_131 : decode method_2_code 131 = .ok (.lcmp, 1) := by decide +kernel
theorem d2_132 : decode method_2_code 132 = .ok (.ifCond .le 6, 3) := by decide +kernel
theorem d2_135 : decode method_2_code 135 = .ok (.bipush 13, 2) := by decide +kernel
theorem d2_137 : decode method_2_code 137 = .ok (.ireturn, 1) := by decide +kernel
theorem d2_138 : decode method_2_code 138 = .ok (.lload_n 0, 1) := by decide +kernel
theorem d2_139 : decode method_2_code 139 = .ok (.ldc2_w 33, 3) := by decide +kernel
theorem d2_142 : decode method_2_code 142 = .ok (.lcmp, 1) := by decide +kernel
theorem d2_143 : decode method_2_code 143 = .ok (.ifCond .le 6, 3) := by decide +kernel
theorem d2_146 : decode method_2_code 146 = .ok (.bipush 14, 2) := by decide +kernel
theorem d2_148 : decode method_2_code 148 = .ok (.ireturn, 1) := by decide +kernel
theorem d2_149 : decode method_2_code 149 = .ok (.lload_n 0, 1) := by decide +kernel
theorem d2_150 : decode method_2_code 150 = .ok (.ldc2_w 35, 3) := by decide +kernel
theorem d2_153 : decode method_2_code 153 = .ok (.lcmp, 1) := by decide +kernel
theorem d2_154 : decode method_2_code 154 = .ok (.ifCond .le 6, 3) := by decide +kernel
theorem d2_157 : decode method_2_code 157 = .ok (.bipush 15, 2) := by decide +kernel
theorem d2_159 : decode method_2_code 159 = .ok (.ireturn, 1) := by decide +kernel
theorem d2_160 : decode method_2_code 160 = .ok (.lload_n 0, 1) := by decide +kernel
theorem d2_161 : decode method_2_code 161 = .ok (.ldc2_w 37, 3) := by decide +kernel
theorem d2_164 : decode method_2_code 164 = .ok (.lcmp, 1) := by decide +kernel
theorem d2_165 : decode method_2_code 165 = .ok (.ifCond .le 6, 3) := by decide +kernel
theorem d2_168 : decode method_2_code 168 = .ok (.bipush 16, 2) := by decide +kernel
theorem d2_170 : decode method_2_code 170 = .ok (.ireturn, 1) := by decide +kernel
theorem d2_171 : decode method_2_code 171 = .ok (.lload_n 0, 1) := by decide +kernel
theorem d2_172 : decode method_2_code 172 = .ok (.ldc2_w 39, 3) := by decide +kernel
theorem d2_175 : decode method_2_code 175 = .ok (.lcmp, 1) := by decide +kernel
theorem d2_176 : decode method_2_code 176 = .ok (.ifCond .le 6, 3) := by decide +kernel
theorem d2_179 : decode method_2_code 179 = .ok (.bipush 17, 2) := by decide +kernel
theorem d2_181 : decode method_2_code 181 = .ok (.ireturn, 1) := by decide +kernel
theorem d2_182 : decode method_2_code 182 = .ok (.lload_n 0, 1) := by decide +kernel
theorem d2_183 : decode method_2_code 183 = .ok (.ldc2_w 41, 3) := by decide +kernel
theorem d2_186 : decode method_2_code 186 = .ok (.lcmp, 1) := by decide +kernel
theorem d2_187 : decode method_2_code 187 = .ok (.ifCond .le 6, 3) := by decide +kernel
theorem d2_190 : decode method_2_code 190 = .ok (.bipush 18, 2) := by decide +kernel
theorem d2_192 : decode method_2_code 192 = .ok (.ireturn, 1) := by decide +kernel
theorem d2_193 : decode method_2_code 193 = .ok (.bipush 19, 2) := by decide +kernel
theorem d2_195 : decode method_2_code 195 = .ok (.ireturn, 1) := by decide +kernel
theorem pn_2 : plainFor (⟨"com/example/tidemark/tidemark/DecimalWritePinLaw", "digits", "(J)I"⟩ : MethodName) = true := by first | (exact plainFor_of_name (by first | (simp [plainName, overriddenIn, x]; done) | decide +kernel)) | decide +kernel
set_option maxRecDepth 65536 in
set_option maxHeartbeats 40000000 in
theorem rm2 (l : Launch) (Z : State) (a0 : Array Value) (hw : ∀ d ∈ tables_1, d.before a0 Z = true) (p1 : Int64) (md : Nat) (h0 : Heap) (hm : md ≤ 9223372036854775808) (hp1 : p1 = own_neg md) :
    OMet l Z (⟨"com/example/tidemark/tidemark/DecimalWritePinLaw", "digits", "(J)I"⟩ : MethodName) method_2_code 2 (some (.int)) [] ({ frames := 0, cells := 0, slots := 0, locals := 0 } : Room) #[.long p1] h0 (Pu (.int (Int32.ofNat (own_nd md))) h0) := by
  refine own_body (Ls := #[.val (.long p1), .second]) pn_2 (fun m => by first | (simp [entryFrame, mkF, argsToLocals, Value.category, maxLocals]; done) | rfl) ?_
  intro p e s m below meth c s₁ X0 hx hby hml hown hnm hret hlk hZ e0
  subst hp1
  refine g_lloadN (n := 1) X0 hx (hb hby d2_0) rfl rfl ?_
  refine g_ldc2 (n := 4) X0 hx hZ hown (hw _ (List.mem_of_getElem? (i := 11) rfl)) (hb hby d2_1) rfl ?_
  refine g_lcmp (n := 5) X0 hx (hb hby d2_4) rfl ?_
  refine g_if (n := 10) (n' := 8) X0 hx _ (own_zle _) (hb hby d2_5) (by decide) (by decide) rfl (fun hc => ?_) (fun hc => ?_)
  · have q1 : ¬ md < 10 := by
      have := (own_cmp_le _ _).mp hc; rw [Int64.lt_iff_toInt_lt, own_neg_toInt hm, show (-10 : Int64).toInt = -10 from rfl] at this; omega
    refine g_lloadN (n := 11) X0 hx (hb hby d2_10) rfl rfl ?_
    refine g_ldc2 (n := 14) X0 hx hZ hown (hw _ (List.mem_of_getElem? (i := 18) rfl)) (hb hby d2_11) rfl ?_
    refine g_lcmp (n := 15) X0 hx (hb hby d2_14) rfl ?_
    refine g_if (n := 20) (n' := 18) X0 hx _ (own_zle _) (hb hby d2_15) (by decide) (by decide) rfl (fun hc => ?_) (fun hc => ?_)
    · have q2 : ¬ md < 100 := by
        have := (own_cmp_le _ _).mp hc; rw [Int64.lt_iff_toInt_lt, own_neg_toInt hm, show (-100 : Int64).toInt = -100 from rfl] at this; omega
      refine g_lloadN (n := 21) X0 hx (hb hby d2_20) rfl rfl ?_
      refine g_ldc2 (n := 24) X0 hx hZ hown (hw _ (List.mem_of_getElem? (i := 19) rfl)) (hb hby d2_21) rfl ?_
      refine g_lcmp (n := 25) X0 hx (hb hby d2_24) rfl ?_
      refine g_if (n := 30) (n' := 28) X0 hx _ (own_zle _) (hb hby d2_25) (by decide) (by decide) rfl (fun hc => ?_) (fun hc => ?_)
      · have q3 : ¬ md < 1000 := by
          have := (own_cmp_le _ _).mp hc; rw [Int64.lt_iff_toInt_lt, own_neg_toInt hm, show (-1000 : Int64).toInt = -1000 from rfl] at this; omega
        refine g_lloadN (n := 31) X0 hx (hb hby d2_30) rfl rfl ?_
        refine g_ldc2 (n := 34) X0 hx hZ hown (hw _ (List.mem_of_getElem? (i := 20) rfl)) (hb hby d2_31) rfl ?_
        refine g_lcmp (n := 35) X0 hx (hb hby d2_34) rfl ?_
        refine g_if (n := 40) (n' := 38) X0 hx _ (own_zle _) (hb hby d2_35) (by decide) (by decide) rfl (fun hc => ?_) (fun hc => ?_)
        · have q4 : ¬ md < 10000 := by
            have := (own_cmp_le _ _).mp hc; rw [Int64.lt_iff_toInt_lt, own_neg_toInt hm, show (-10000 : Int64).toInt = -10000 from rfl] at this; omega
          refine g_lloadN (n := 41) X0 hx (hb hby d2_40) rfl rfl ?_
          refine g_ldc2 (n := 44) X0 hx hZ hown (hw _ (List.mem_of_getElem? (i := 21) rfl)) (hb hby d2_41) rfl ?_
          refine g_lcmp (n := 45) X0 hx (hb hby d2_44) rfl ?_
          refine g_if (n := 50) (n' := 48) X0 hx _ (own_zle _) (hb hby d2_45) (by decide) (by decide) rfl (fun hc => ?_) (fun hc => ?_)
          · have q5 : ¬ md < 100000 := by
              have := (own_cmp_le _ _).mp hc; rw [Int64.lt_iff_toInt_lt, own_neg_toInt hm, show (-100000 : Int64).toInt = -100000 from rfl] at this; omega
            refine g_lloadN (n := 51) X0 hx (hb hby d2_50) rfl rfl ?_
            refine g_ldc2 (n := 54) X0 hx hZ hown (hw _ (List.mem_of_getElem? (i := 22) rfl)) (hb hby d2_51) rfl ?_
            refine g_lcmp (n := 55) X0 hx (hb hby d2_54) rfl ?_
            refine g_if (n := 61) (n' := 58) X0 hx _ (own_zle _) (hb hby d2_55) (by decide) (by decide) rfl (fun hc => ?_) (fun hc => ?_)
            · have q6 : ¬ md < 1000000 := by
                have := (own_cmp_le _ _).mp hc; rw [Int64.lt_iff_toInt_lt, own_neg_toInt hm, show (-1000000 : Int64).toInt = -1000000 from rfl] at this; omega
              refine g_lloadN (n := 62) X0 hx (hb hby d2_61) rfl rfl ?_
              refine g_ldc2 (n := 65) X0 hx hZ hown (hw _ (List.mem_of_getElem? (i := 23) rfl)) (hb hby d2_62) rfl ?_
              refine g_lcmp (n := 66) X0 hx (hb hby d2_65) rfl ?_
              refine g_if (n := 72) (n' := 69) X0 hx _ (own_zle _) (hb hby d2_66) (by decide) (by decide) rfl (fun hc => ?_) (fun hc => ?_)
              · have q7 : ¬ md < 10000000 := by
                  have := (own_cmp_le _ _).mp hc; rw [Int64.lt_iff_toInt_lt, own_neg_toInt hm, show (-10000000 : Int64).toInt = -10000000 from rfl] at this; omega
                refine g_lloadN (n := 73) X0 hx (hb hby d2_72) rfl rfl ?_
                refine g_ldc2 (n := 76) X0 hx hZ hown (hw _ (List.mem_of_getElem? (i := 24) rfl)) (hb hby d2_73) rfl ?_
                refine g_lcmp (n := 77) X0 hx (hb hby d2_76) rfl ?_
                refine g_if (n := 83) (n' := 80) X0 hx _ (own_zle _) (hb hby d2_77) (by decide) (by decide) rfl (fun hc => ?_) (fun hc => ?_)
                · have q8 : ¬ md < 100000000 := by
                    have := (own_cmp_le _ _).mp hc; rw [Int64.lt_iff_toInt_lt, own_neg_toInt hm, show (-100000000 : Int64).toInt = -100000000 from rfl] at this; omega
                  refine g_lloadN (n := 84) X0 hx (hb hby d2_83) rfl rfl ?_
                  refine g_ldc2 (n := 87) X0 hx hZ hown (hw _ (List.mem_of_getElem? (i := 25) rfl)) (hb hby d2_84) rfl ?_
                  refine g_lcmp (n := 88) X0 hx (hb hby d2_87) rfl ?_
                  refine g_if (n := 94) (n' := 91) X0 hx _ (own_zle _) (hb hby d2_88) (by decide) (by decide) rfl (fun hc => ?_) (fun hc => ?_)
                  · have q9 : ¬ md < 1000000000 := by
                      have := (own_cmp_le _ _).mp hc; rw [Int64.lt_iff_toInt_lt, own_neg_toInt hm, show (-1000000000 : Int64).toInt = -1000000000 from rfl] at this; omega
                    refine g_lloadN (n := 95) X0 hx (hb hby d2_94) rfl rfl ?_
                    refine g_ldc2 (n := 98) X0 hx hZ hown (hw _ (List.mem_of_getElem? (i := 26) rfl)) (hb hby d2_95) rfl ?_
                    refine g_lcmp (n := 99) X0 hx (hb hby d2_98) rfl ?_
                    refine g_if (n := 105) (n' := 102) X0 hx _ (own_zle _) (hb hby d2_99) (by decide) (by decide) rfl (fun hc => ?_) (fun hc => ?_)
                    · have q10 : ¬ md < 10000000000 := by
                        have := (own_cmp_le _ _).mp hc; rw [Int64.lt_iff_toInt_lt, own_neg_toInt hm, show (-10000000000 : Int64).toInt = -10000000000 from rfl] at this; omega
                      refine g_lloadN (n := 106) X0 hx (hb hby d2_105) rfl rfl ?_
                      refine g_ldc2 (n := 109) X0 hx hZ hown (hw _ (List.mem_of_getElem? (i := 27) rfl)) (hb hby d2_106) rfl ?_
                      refine g_lcmp (n := 110) X0 hx (hb hby d2_109) rfl ?_
                      refine g_if (n := 116) (n' := 113) X0 hx _ (own_zle _) (hb hby d2_110) (by decide) (by decide) rfl (fun hc => ?_) (fun hc => ?_)
                      · have q11 : ¬ md < 100000000000 := by
                          have := (own_cmp_le _ _).mp hc; rw [Int64.lt_iff_toInt_lt, own_neg_toInt hm, show (-100000000000 : Int64).toInt = -100000000000 from rfl] at this; omega
                        refine g_lloadN (n := 117) X0 hx (hb hby d2_116) rfl rfl ?_
                        refine g_ldc2 (n := 120) X0 hx hZ hown (hw _ (List.mem_of_getElem? (i := 28) rfl)) (hb hby d2_117) rfl ?_
                        refine g_lcmp (n := 121) X0 hx (hb hby d2_120) rfl ?_
                        refine g_if (n := 127) (n' := 124) X0 hx _ (own_zle _) (hb hby d2_121) (by decide) (by decide) rfl (fun hc => ?_) (fun hc => ?_)
                        · have q12 : ¬ md < 1000000000000 := by
                            have := (own_cmp_le _ _).mp hc; rw [Int64.lt_iff_toInt_lt, own_neg_toInt hm, show (-1000000000000 : Int64).toInt = -1000000000000 from rfl] at this; omega
                          refine g_lloadN (n := 128) X0 hx (hb hby d2_127) rfl rfl ?_
                          refine g_ldc2 (n := 131) X0 hx hZ hown (hw _ (List.mem_of_getElem? (i := 29) rfl)) (hb hby d2_128) rfl ?_
                          refine g_lcmp (n := 132) X0 hx (hb hby d2_131) rfl ?_
                          refine g_if (n := 138) (n' := 135) X0 hx _ (own_zle _) (hb hby d2_132) (by decide) (by decide) rfl (fun hc => ?_) (fun hc => ?_)
                          · have q13 : ¬ md < 10000000000000 := by
                              have := (own_cmp_le _ _).mp hc; rw [Int64.lt_iff_toInt_lt, own_neg_toInt hm, show (-10000000000000 : Int64).toInt = -10000000000000 from rfl] at this; omega
                            refine g_lloadN (n := 139) X0 hx (hb hby d2_138) rfl rfl ?_
                            refine g_ldc2 (n := 142) X0 hx hZ hown (hw _ (List.mem_of_getElem? (i := 30) rfl)) (hb hby d2_139) rfl ?_
                            refine g_lcmp (n := 143) X0 hx (hb hby d2_142) rfl ?_
                            refine g_if (n := 149) (n' := 146) X0 hx _ (own_zle _) (hb hby d2_143) (by decide) (by decide) rfl (fun hc => ?_) (fun hc => ?_)
                            · have q14 : ¬ md < 100000000000000 := by
                                have := (own_cmp_le _ _).mp hc; rw [Int64.lt_iff_toInt_lt, own_neg_toInt hm, show (-100000000000000 : Int64).toInt = -100000000000000 from rfl] at this; omega
                              refine g_lloadN (n := 150) X0 hx (hb hby d2_149) rfl rfl ?_
                              refine g_ldc2 (n := 153) X0 hx hZ hown (hw _ (List.mem_of_getElem? (i := 31) rfl)) (hb hby d2_150) rfl ?_
                              refine g_lcmp (n := 154) X0 hx (hb hby d2_153) rfl ?_
                              refine g_if (n := 160) (n' := 157) X0 hx _ (own_zle _) (hb hby d2_154) (by decide) (by decide) rfl (fun hc => ?_) (fun hc => ?_)
                              · have q15 : ¬ md < 1000000000000000 := by
                                  have := (own_cmp_le _ _).mp hc; rw [Int64.lt_iff_toInt_lt, own_neg_toInt hm, show (-1000000000000000 : Int64).toInt = -1000000000000000 from rfl] at this; omega
                                refine g_lloadN (n := 161) X0 hx (hb hby d2_160) rfl rfl ?_
                                refine g_ldc2 (n := 164) X0 hx hZ hown (hw _ (List.mem_of_getElem? (i := 32) rfl)) (hb hby d2_161) rfl ?_
                                refine g_lcmp (n := 165) X0 hx (hb hby d2_164) rfl ?_
                                refine g_if (n := 171) (n' := 168) X0 hx _ (own_zle _) (hb hby d2_165) (by decide) (by decide) rfl (fun hc => ?_) (fun hc => ?_)
                                · have q16 : ¬ md < 10000000000000000 := by
                                    have := (own_cmp_le _ _).mp hc; rw [Int64.lt_iff_toInt_lt, own_neg_toInt hm, show (-10000000000000000 : Int64).toInt = -10000000000000000 from rfl] at this; omega
                                  refine g_lloadN (n := 172) X0 hx (hb hby d2_171) rfl rfl ?_
                                  refine g_ldc2 (n := 175) X0 hx hZ hown (hw _ (List.mem_of_getElem? (i := 33) rfl)) (hb hby d2_172) rfl ?_
                                  refine g_lcmp (n := 176) X0 hx (hb hby d2_175) rfl ?_
                                  refine g_if (n := 182) (n' := 179) X0 hx _ (own_zle _) (hb hby d2_176) (by decide) (by decide) rfl (fun hc => ?_) (fun hc => ?_)
                                  · have q17 : ¬ md < 100000000000000000 := by
                                      have := (own_cmp_le _ _).mp hc; rw [Int64.lt_iff_toInt_lt, own_neg_toInt hm, show (-100000000000000000 : Int64).toInt = -100000000000000000 from rfl] at this; omega
                                    refine g_lloadN (n := 183) X0 hx (hb hby d2_182) rfl rfl ?_
                                    refine g_ldc2 (n := 186) X0 hx hZ hown (hw _ (List.mem_of_getElem? (i := 34) rfl)) (hb hby d2_183) rfl ?_
                                    refine g_lcmp (n := 187) X0 hx (hb hby d2_186) rfl ?_
                                    refine g_if (n := 193) (n' := 190) X0 hx _ (own_zle _) (hb hby d2_187) (by decide) (by decide) rfl (fun hc => ?_) (fun hc => ?_)
                                    · have q18 : ¬ md < 1000000000000000000 := by
                                        have := (own_cmp_le _ _).mp hc; rw [Int64.lt_iff_toInt_lt, own_neg_toInt hm, show (-1000000000000000000 : Int64).toInt = -1000000000000000000 from rfl] at this; omega
                                      refine g_bipush (n := 195) X0 hx (19 : Int32) (hb hby d2_193) rfl rfl ?_
                                      refine g_retI X0 hx hret hlk (hb hby d2_195) (Fe.of (by decide) (by decide)) ?_
                                      try rw [e0]
                                      exact ⟨by simp only [own_nd, q1, q2, q3, q4, q5, q6, q7, q8, q9, q10, q11, q12, q13, q14, q15, q16, q17, q18, if_false]; rfl, rfl, rfl⟩
                                    · have q18 : md < 1000000000000000000 := by
                                        have := Classical.not_not.mp (fun r => hc ((own_cmp_le _ _).mpr r)); rw [Int64.lt_iff_toInt_lt, own_neg_toInt hm, show (-1000000000000000000 : Int64).toInt = -1000000000000000000 from rfl] at this; omega
                                      refine g_bipush (n := 192) X0 hx (18 : Int32) (hb hby d2_190) rfl rfl ?_
                                      refine g_retI X0 hx hret hlk (hb hby d2_192) (Fe.of (by decide) (by decide)) ?_
                                      try rw [e0]
                                      exact ⟨by simp only [own_nd, q1, q2, q3, q4, q5, q6, q7, q8, q9, q10, q11, q12, q13, q14, q15, q16, q17, q18, if_true, if_false]; rfl, rfl, rfl⟩
                                  · have q17 : md < 100000000000000000 := by
                                      have := Classical.not_not.mp (fun r => hc ((own_cmp_le _ _).mpr r)); rw [Int64.lt_iff_toInt_lt, own_neg_toInt hm, show (-100000000000000000 : Int64).toInt = -100000000000000000 from rfl] at this; omega
                                    refine g_bipush (n := 181) X0 hx (17 : Int32) (hb hby d2_179) rfl rfl ?_
                                    refine g_retI X0 hx hret hlk (hb hby d2_181) (Fe.of (by decide) (by decide)) ?_
                                    try rw [e0]
                                    exact ⟨by simp only [own_nd, q1, q2, q3, q4, q5, q6, q7, q8, q9, q10, q11, q12, q13, q14, q15, q16, q17, if_true, if_false]; rfl, rfl, rfl⟩
                                · have q16 : md < 10000000000000000 := by
                                    have := Classical.not_not.mp (fun r => hc ((own_cmp_le _ _).mpr r)); rw [Int64.lt_iff_toInt_lt, own_neg_toInt hm, show (-10000000000000000 : Int64).toInt = -10000000000000000 from rfl] at this; omega
                                  refine g_bipush (n := 170) X0 hx (16 : Int32) (hb hby d2_168) rfl rfl ?_
                                  refine g_retI X0 hx hret hlk (hb hby d2_170) (Fe.of (by decide) (by decide)) ?_
                                  try rw [e0]
                                  exact ⟨by simp only [own_nd, q1, q2, q3, q4, q5, q6, q7, q8, q9, q10, q11, q12, q13, q14, q15, q16, if_true, if_false]; rfl, rfl, rfl⟩
                              · have q15 : md < 1000000000000000 := by
                                  have := Classical.not_not.mp (fun r => hc ((own_cmp_le _ _).mpr r)); rw [Int64.lt_iff_toInt_lt, own_neg_toInt hm, show (-1000000000000000 : Int64).toInt = -1000000000000000 from rfl] at this; omega
                                refine g_bipush (n := 159) X0 hx (15 : Int32) (hb hby d2_157) rfl rfl ?_
                                refine g_retI X0 hx hret hlk (hb hby d2_159) (Fe.of (by decide) (by decide)) ?_
                                try rw [e0]
                                exact ⟨by simp only [own_nd, q1, q2, q3, q4, q5, q6, q7, q8, q9, q10, q11, q12, q13, q14, q15, if_true, if_false]; rfl, rfl, rfl⟩
                            · have q14 : md < 100000000000000 := by
                                have := Classical.not_not.mp (fun r => hc ((own_cmp_le _ _).mpr r)); rw [Int64.lt_iff_toInt_lt, own_neg_toInt hm, show (-100000000000000 : Int64).toInt = -100000000000000 from rfl] at this; omega
                              refine g_bipush (n := 148) X0 hx (14 : Int32) (hb hby d2_146) rfl rfl ?_
                              refine g_retI X0 hx hret hlk (hb hby d2_148) (Fe.of (by decide) (by decide)) ?_
                              try rw [e0]
                              exact ⟨by simp only [own_nd, q1, q2, q3, q4, q5, q6, q7, q8, q9, q10, q11, q12, q13, q14, if_true, if_false]; rfl, rfl, rfl⟩
                          · have q13 : md < 10000000000000 := by
                              have := Classical.not_not.mp (fun r => hc ((own_cmp_le _ _).mpr r)); rw [Int64.lt_iff_toInt_lt, own_neg_toInt hm, show (-10000000000000 : Int64).toInt = -10000000000000 from rfl] at this; omega
                            refine g_bipush (n := 137) X0 hx (13 : Int32) (hb hby d2_135) rfl rfl ?_
                            refine g_retI X0 hx hret hlk (hb hby d2_137) (Fe.of (by decide) (by decide)) ?_
                            try rw [e0]
                            exact ⟨by simp only [own_nd, q1, q2, q3, q4, q5, q6, q7, q8, q9, q10, q11, q12, q13, if_true, if_false]; rfl, rfl, rfl⟩
                        · have q12 : md < 1000000000000 := by
                            have := Classical.not_not.mp (fun r => hc ((own_cmp_le _ _).mpr r)); rw [Int64.lt_iff_toInt_lt, own_neg_toInt hm, show (-1000000000000 : Int64).toInt = -1000000000000 from rfl] at this; omega
                          refine g_bipush (n := 126) X0 hx (12 : Int32) (hb hby d2_124) rfl rfl ?_
                          refine g_retI X0 hx hret hlk (hb hby d2_126) (Fe.of (by decide) (by decide)) ?_
                          try rw [e0]
                          exact ⟨by simp only [own_nd, q1, q2, q3, q4, q5, q6, q7, q8, q9, q10, q11, q12, if_true, if_false]; rfl, rfl, rfl⟩
                      · have q11 : md < 100000000000 := by
                          have := Classical.not_not.mp (fun r => hc ((own_cmp_le _ _).mpr r)); rw [Int64.lt_iff_toInt_lt, own_neg_toInt hm, show (-100000000000 : Int64).toInt = -100000000000 from rfl] at this; omega
                        refine g_bipush (n := 115) X0 hx (11 : Int32) (hb hby d2_113) rfl rfl ?_
                        refine g_retI X0 hx hret hlk (hb hby d2_115) (Fe.of (by decide) (by decide)) ?_
                        try rw [e0]
                        exact ⟨by simp only [own_nd, q1, q2, q3, q4, q5, q6, q7, q8, q9, q10, q11, if_true, if_false]; rfl, rfl, rfl⟩
                    · have q10 : md < 10000000000 := by
                        have := Classical.not_not.mp (fun r => hc ((own_cmp_le _ _).mpr r)); rw [Int64.lt_iff_toInt_lt, own_neg_toInt hm, show (-10000000000 : Int64).toInt = -10000000000 from rfl] at this; omega
                      refine g_bipush (n := 104) X0 hx (10 : Int32) (hb hby d2_102) rfl rfl ?_
                      refine g_retI X0 hx hret hlk (hb hby d2_104) (Fe.of (by decide) (by decide)) ?_
                      try rw [e0]
                      exact ⟨by simp only [own_nd, q1, q2, q3, q4, q5, q6, q7, q8, q9, q10, if_true, if_false]; rfl, rfl, rfl⟩
                  · have q9 : md < 1000000000 := by
                      have := Classical.not_not.mp (fun r => hc ((own_cmp_le _ _).mpr r)); rw [Int64.lt_iff_toInt_lt, own_neg_toInt hm, show (-1000000000 : Int64).toInt = -1000000000 from rfl] at this; omega
                    refine g_bipush (n := 93) X0 hx (9 : Int32) (hb hby d2_91) rfl rfl ?_
                    refine g_retI X0 hx hret hlk (hb hby d2_93) (Fe.of (by decide) (by decide)) ?_
                    try rw [e0]
                    exact ⟨by simp only [own_nd, q1, q2, q3, q4, q5, q6, q7, q8, q9, if_true, if_false]; rfl, rfl, rfl⟩
                · have q8 : md < 100000000 := by
                    have := Classical.not_not.mp (fun r => hc ((own_cmp_le _ _).mpr r)); rw [Int64.lt_iff_toInt_lt, own_neg_toInt hm, show (-100000000 : Int64).toInt = -100000000 from rfl] at this; omega
                  refine g_bipush (n := 82) X0 hx (8 : Int32) (hb hby d2_80) rfl rfl ?_
                  refine g_retI X0 hx hret hlk (hb hby d2_82) (Fe.of (by decide) (by decide)) ?_
                  try rw [e0]
                  exact ⟨by simp only [own_nd, q1, q2, q3, q4, q5, q6, q7, q8, if_true, if_false]; rfl, rfl, rfl⟩
              · have q7 : md < 10000000 := by
                  have := Classical.not_not.mp (fun r => hc ((own_cmp_le _ _).mpr r)); rw [Int64.lt_iff_toInt_lt, own_neg_toInt hm, show (-10000000 : Int64).toInt = -10000000 from rfl] at this; omega
                refine g_bipush (n := 71) X0 hx (7 : Int32) (hb hby d2_69) rfl rfl ?_
                refine g_retI X0 hx hret hlk (hb hby d2_71) (Fe.of (by decide) (by decide)) ?_
                try rw [e0]
                exact ⟨by simp only [own_nd, q1, q2, q3, q4, q5, q6, q7, if_true, if_false]; rfl, rfl, rfl⟩
            · have q6 : md < 1000000 := by
                have := Classical.not_not.mp (fun r => hc ((own_cmp_le _ _).mpr r)); rw [Int64.lt_iff_toInt_lt, own_neg_toInt hm, show (-1000000 : Int64).toInt = -1000000 from rfl] at this; omega
              refine g_bipush (n := 60) X0 hx (6 : Int32) (hb hby d2_58) rfl rfl ?_
              refine g_retI X0 hx hret hlk (hb hby d2_60) (Fe.of (by decide) (by decide)) ?_
              try rw [e0]
              exact ⟨by simp only [own_nd, q1, q2, q3, q4, q5, q6, if_true, if_false]; rfl, rfl, rfl⟩
          · have q5 : md < 100000 := by
              have := Classical.not_not.mp (fun r => hc ((own_cmp_le _ _).mpr r)); rw [Int64.lt_iff_toInt_lt, own_neg_toInt hm, show (-100000 : Int64).toInt = -100000 from rfl] at this; omega
            refine g_iconst (n := 49) X0 hx (5 : Int32) (hb hby d2_48) rfl rfl ?_
            refine g_retI X0 hx hret hlk (hb hby d2_49) (Fe.of (by decide) (by decide)) ?_
            try rw [e0]
            exact ⟨by simp only [own_nd, q1, q2, q3, q4, q5, if_true, if_false]; rfl, rfl, rfl⟩
        · have q4 : md < 10000 := by
            have := Classical.not_not.mp (fun r => hc ((own_cmp_le _ _).mpr r)); rw [Int64.lt_iff_toInt_lt, own_neg_toInt hm, show (-10000 : Int64).toInt = -10000 from rfl] at this; omega
          refine g_iconst (n := 39) X0 hx (4 : Int32) (hb hby d2_38) rfl rfl ?_
          refine g_retI X0 hx hret hlk (hb hby d2_39) (Fe.of (by decide) (by decide)) ?_
          try rw [e0]
          exact ⟨by simp only [own_nd, q1, q2, q3, q4, if_true, if_false]; rfl, rfl, rfl⟩
      · have q3 : md < 1000 := by
          have := Classical.not_not.mp (fun r => hc ((own_cmp_le _ _).mpr r)); rw [Int64.lt_iff_toInt_lt, own_neg_toInt hm, show (-1000 : Int64).toInt = -1000 from rfl] at this; omega
        refine g_iconst (n := 29) X0 hx (3 : Int32) (hb hby d2_28) rfl rfl ?_
        refine g_retI X0 hx hret hlk (hb hby d2_29) (Fe.of (by decide) (by decide)) ?_
        try rw [e0]
        exact ⟨by simp only [own_nd, q1, q2, q3, if_true, if_false]; rfl, rfl, rfl⟩
    · have q2 : md < 100 := by
        have := Classical.not_not.mp (fun r => hc ((own_cmp_le _ _).mpr r)); rw [Int64.lt_iff_toInt_lt, own_neg_toInt hm, show (-100 : Int64).toInt = -100 from rfl] at this; omega
      refine g_iconst (n := 19) X0 hx (2 : Int32) (hb hby d2_18) rfl rfl ?_
      refine g_retI X0 hx hret hlk (hb hby d2_19) (Fe.of (by decide) (by decide)) ?_
      try rw [e0]
      exact ⟨by simp only [own_nd, q1, q2, if_true, if_false]; rfl, rfl, rfl⟩
  · have q1 : md < 10 := by
      have := Classical.not_not.mp (fun r => hc ((own_cmp_le _ _).mpr r)); rw [Int64.lt_iff_toInt_lt, own_neg_toInt hm, show (-10 : Int64).toInt = -10 from rfl] at this; omega
    refine g_iconst (n := 9) X0 hx (1 : Int32) (hb hby d2_8) rfl rfl ?_
    refine g_retI X0 hx hret hlk (hb hby d2_9) (Fe.of (by decide) (by decide)) ?_
    try rw [e0]
    exact ⟨by simp only [own_nd, q1, if_true, if_false]; rfl, rfl, rfl⟩
theorem d1_0 : decode prog_50_method_5_code 0 = .ok (.iload_n 3, 1) := by decide +kernel
theorem d1_1 : decode prog_50_method_5_code 1 = .ok (.istore 4, 2) := by decide +kernel
theorem d1_3 : decode prog_50_method_5_code 3 = .ok (.lload_n 0, 1) := by decide +kernel
theorem d1_4 : decode prog_50_method_5_code 4 = .ok (.lconst 0, 1) := by decide +kernel
theorem d1_5 : decode prog_50_method_5_code 5 = .ok (.lcmp, 1) := by decide +kernel
theorem d1_6 : decode prog_50_method_5_code 6 = .ok (.ifCond .ge 12, 3) := by decide +kernel
theorem d1_9 : decode prog_50_method_5_code 9 = .ok (.aload_n 2, 1) := by decide +kernel
theorem d1_10 : decode prog_50_method_5_code 10 = .ok (.iload 4, 2) := by decide +kernel
theorem d1_12 : decode prog_50_method_5_code 12 = .ok (.iinc 4 1, 3) := by decide +kernel
theorem d1_15 : decode prog_50_method_5_code 15 = .ok (.bipush 45, 2) := by decide +kernel
theorem d1_17 : decode prog_50_method_5_code 17 = .ok (.bastore, 1) := by decide +kernel
theorem d1_18 : decode prog_50_method_5_code 18 = .ok (.iload 4, 2) := by decide +kernel
theorem d1_20 : decode prog_50_method_5_code 20 = .ok (.istore 5, 2) := by decide +kernel
theorem d1_22 : decode prog_50_method_5_code 22 = .ok (.lload_n 0, 1) := by decide +kernel
theorem d1_23 : decode prog_50_method_5_code 23 = .ok (.lconst 0, 1) := by decide +kernel
theorem d1_24 : decode prog_50_method_5_code 24 = .ok (.lcmp, 1) := by decide +kernel
theorem d1_25 : decode prog_50_method_5_code 25 = .ok (.ifCond .ge 7, 3) := by decide +kernel
theorem d1_28 : decode prog_50_method_5_code 28 = .ok (.lload_n 0, 1) := by decide +kernel
theorem d1_29 : decode prog_50_method_5_code 29 = .ok (.goto 5, 3) := by decide +kernel
theorem d1_32 : decode prog_50_method_5_code 32 = .ok (.lload_n 0, 1) := by decide +kernel
theorem d1_33 : decode prog_50_method_5_code 33 = .ok (.lneg, 1) := by decide +kernel
theorem d1_34 : decode prog_50_method_5_code 34 = .ok (.lstore 6, 2) := by decide +kernel
theorem d1_36 : decode prog_50_method_5_code 36 = .ok (.aload_n 2, 1) := by decide +kernel
theorem d1_37 : decode prog_50_method_5_code 37 = .ok (.iload 4, 2) := by decide +kernel
theorem d1_39 : decode prog_50_method_5_code 39 = .ok (.iinc 4 1, 3) := by decide +kernel
theorem d1_42 : decode prog_50_method_5_code 42 = .ok (.ldc2_w 38, 3) := by decide +kernel
theorem d1_45 : decode prog_50_method_5_code 45 = .ok (.lload 6, 2) := by decide +kernel
theorem d1_47 : decode prog_50_method_5_code 47 = .ok (.ldc2_w 20, 3) := by decide +kernel
theorem d1_50 : decode prog_50_method_5_code 50 = .ok (.lrem, 1) := by decide +kernel
theorem d1_51 : decode prog_50_method_5_code 51 = .ok (.lsub, 1) := by decide +kernel
theorem d1_52 : decode prog_50_method_5_code 52 = .ok (.l2i, 1) := by decide +kernel
theorem d1_53 : decode prog_50_method_5_code 53 = .ok (.i2b, 1) := by decide +kernel
theorem d1_54 : decode prog_50_method_5_code 54 = .ok (.bastore, 1) := by decide +kernel
theorem d1_55 : decode prog_50_method_5_code 55 = .ok (.lload 6, 2) := by decide +kernel
theorem d1_57 : decode prog_50_method_5_code 57 = .ok (.ldc2_w 20, 3) := by decide +kernel
theorem d1_60 : decode prog_50_method_5_code 60 = .ok (.ldiv, 1) := by decide +kernel
theorem d1_61 : decode prog_50_method_5_code 61 = .ok (.lstore 6, 2) := by decide +kernel
theorem d1_63 : decode prog_50_method_5_code 63 = .ok (.lload 6, 2) := by decide +kernel
theorem d1_65 : decode prog_50_method_5_code 65 = .ok (.lconst 0, 1) := by decide +kernel
theorem d1_66 : decode prog_50_method_5_code 66 = .ok (.lcmp, 1) := by decide +kernel
theorem d1_67 : decode prog_50_method_5_code 67 = .ok (.ifCond .ne (-31), 3) := by decide +kernel
theorem d1_70 : decode prog_50_method_5_code 70 = .ok (.iload 5, 2) := by decide +kernel
theorem d1_72 : decode prog_50_method_5_code 72 = .ok (.istore 8, 2) := by decide +kernel
theorem d1_74 : decode prog_50_method_5_code 74 = .ok (.iload 4, 2) := by decide +kernel
theorem d1_76 : decode prog_50_method_5_code 76 = .ok (.iconst 1, 1) := by decide +kernel
theorem d1_77 : decode prog_50_method_5_code 77 = .ok (.isub, 1) := by decide +kernel
theorem d1_78 : decode prog_50_method_5_code 78 = .ok (.istore 9, 2) := by decide +kernel
theorem d1_80 : decode prog_50_method_5_code 80 = .ok (.iload 8, 2) := by decide +kernel
theorem d1_82 : decode prog_50_method_5_code 82 = .ok (.iload 9, 2) := by decide +kernel
theorem d1_84 : decode prog_50_method_5_code 84 = .ok (.if_icmp .ge 32, 3) := by decide +kernel
theorem d1_87 : decode prog_50_method_5_code 87 = .ok (.aload_n 2, 1) := by decide +kernel
theorem d1_88 : decode prog_50_method_5_code 88 = .ok (.iload 8, 2) := by decide +kernel
theorem d1_90 : decode prog_50_method_5_code 90 = .ok (.baload, 1) := by decide +kernel
theorem d1_91 : decode prog_50_method_5_code 91 = .ok (.istore 10, 2) := by decide +kernel
theorem d1_93 : decode prog_50_method_5_code 93 = .ok (.aload_n 2, 1) := by decide +kernel
theorem d1_94 : decode prog_50_method_5_code 94 = .ok (.iload 8, 2) := by decide +kernel
theorem d1_96 : decode prog_50_method_5_code 96 = .ok (.aload_n 2, 1) := by decide +kernel
theorem d1_97 : decode prog_50_method_5_code 97 = .ok (.iload 9, 2) := by decide +kernel
theorem d1_99 : decode prog_50_method_5_code 99 = .ok (.baload, 1) := by decide +kernel
theorem d1_100 : decode prog_50_method_5_code 100 = .ok (.bastore, 1) := by decide +kernel
theorem d1_101 : decode prog_50_method_5_code 101 = .ok (.aload_n 2, 1) := by decide +kernel
theorem d1_102 : decode prog_50_method_5_code 102 = .ok (.iload 9, 2) := by decide +kernel
theorem d1_104 : decode prog_50_method_5_code 104 = .ok (.iload 10, 2) := by decide +kernel
theorem d1_106 : decode prog_50_method_5_code 106 = .ok (.bastore, 1) := by decide +kernel
theorem d1_107 : decode prog_50_method_5_code 107 = .ok (.iinc 8 1, 3) := by decide +kernel
theorem d1_110 : decode prog_50_method_5_code 110 = .ok (.iinc 9 (-1), 3) := by decide +kernel
theorem d1_113 : decode prog_50_method_5_code 113 = .ok (.goto (-33), 3) := by decide +kernel
theorem d1_116 : decode prog_50_method_5_code 116 = .ok (.iload 4, 2) := by decide +kernel
theorem d1_118 : decode prog_50_method_5_code 118 = .ok (.ireturn, 1) := by decide +kernel
theorem pn_1 : plainFor (⟨"com/example/tidemark/tidemark/Decimal", "write", "(J[BI)I"⟩ : MethodName) = true := by first | (exact plainFor_of_name (by first | (simp [plainName, overriddenIn, x]; done) | decide +kernel)) | decide +kernel
set_option maxRecDepth 65536 in
set_option maxHeartbeats 40000000 in
theorem rm1 (l : Launch) (Z : State) (a0 : Array Value) (hw : ∀ d ∈ tables_1, d.before a0 Z = true) (v : Int64) (a1 : Nat) (o sg md n0 : Nat) (g : Nat → Value) (h0 : Heap) (V : Av Z h0 a1 .byte 32 g) (ga : n0 ≤ a1) (ho : o ≤ 7) (hsg : sg ≤ 1) (hm : md ≤ 9223372036854775808) (hpos : ¬ v < 0 → -v = own_neg md) (hneg : v < 0 → v = own_neg md) (hs0 : ¬ v < 0 → sg = 0) (hs1 : v < 0 → sg = 1) :
    OMet l Z (⟨"com/example/tidemark/tidemark/Decimal", "write", "(J[BI)I"⟩ : MethodName) prog_50_method_5_code 11 (some (.int)) [] ({ frames := 0, cells := 0, slots := 0, locals := 0 } : Room) #[.long v, .ref a1, .int (Int32.ofNat o)] h0 (fun r h L => r = some (.int (Int32.ofNat (o + sg + own_nd md))) ∧ Fr n0 L ∧ Keep h0 h [a1] ∧ Av Z h a1 .byte 32 (own_put (fun x => if sg = 1 ∧ x = o then .int 45 else g x) (o + sg) (own_nd md) (fun r => own_dig md (own_nd md - 1 - r)))) := by
  refine own_body (Ls := #[.val (.long v), .second, .val (.ref a1), .val (.int (Int32.ofNat o)), .unset, .unset, .unset, .unset, .unset, .unset, .unset]) pn_1 (fun m => by first | (simp [entryFrame, mkF, argsToLocals, Value.category, maxLocals]; done) | rfl) ?_
  intro p e s m below meth c s₁ X0 hx hby hml hown hnm hret hlk hZ e0
  have hsp := own_nd_spec md hm
  have rev : ∀ (d k : Nat) (rest : Int64) (s10 : Slot) (T : State) (h : Heap) (L : List Loc), own_nd md ≤ 2 * k + d → 2 * k ≤ own_nd md → (s10 = .unset ∨ ∃ w10 : Int32, s10 = .val (.int w10)) → Stand p l e ({ frames := 0, cells := 0, slots := 0, locals := 0 } : Room) s m #[.long v, .ref a1, .int (Int32.ofNat o)] below meth c T L 0 0 → T.heap = h → Fr n0 L → Keep h0 h [a1] → Av Z h a1 .byte 32 (own_put (fun x => if sg = 1 ∧ x = o then .int 45 else g x) (o + sg) (own_nd md) (fun r => own_dig md (own_sw (own_nd md) k r))) → Go p e below (Fe s ({ frames := 0, cells := 0, slots := 0, locals := 0 } : Room).cells ({ frames := 0, cells := 0, slots := 0, locals := 0 } : Room).slots) (fun r h L => r = some (.int (Int32.ofNat (o + sg + own_nd md))) ∧ Fr n0 L ∧ Keep h0 h [a1] ∧ Av Z h a1 .byte 32 (own_put (fun x => if sg = 1 ∧ x = o then .int 45 else g x) (o + sg) (own_nd md) (fun r => own_dig md (own_nd md - 1 - r)))) T (mkF m 80 #[.val (.long v), .second, .val (.ref a1), .val (.int (Int32.ofNat o)), .val (.int (Int32.ofNat (o + sg + own_nd md))), .val (.int (Int32.ofNat (o + sg))), .val (.long rest), .second, .val (.int (Int32.ofNat (o + sg + k))), .val (.int (Int32.ofNat (o + sg + own_nd md - 1 - k))), s10] []) := by
    intro d; induction d with
    | zero =>
      intro k rest s10 T h L hd h2k h10 X e1 NL KL VT
      refine g_iload (n := 82) X hx (hb hby d1_80) rfl rfl ?_
      refine g_iload (n := 84) X hx (hb hby d1_82) rfl rfl ?_
      refine g_icmp (n := 116) (n' := 87) X hx _ (own_cge _ _) (hb hby d1_84) (by decide) (by decide) rfl (fun _ => ?_) (fun hc => absurd ((own_le (by omega) (by omega)).mpr (by omega)) hc)
      refine g_iload (n := 118) X hx (hb hby d1_116) rfl rfl ?_
      refine g_retI X hx hret hlk (hb hby d1_118) (Fe.of (by decide) (by decide)) ?_
      try rw [e1]
      exact ⟨rfl, NL, KL, VT.congr (fun x hx => by
        unfold own_put
        by_cases q : o + sg ≤ x ∧ x < o + sg + own_nd md
        · rw [if_pos q, if_pos q]
          have : own_sw (own_nd md) k (x - (o + sg)) = own_nd md - 1 - (x - (o + sg)) := by unfold own_sw; split <;> omega
          simp only [this]
        · rw [if_neg q, if_neg q])⟩
    | succ d ih =>
      intro k rest s10 T h L hd h2k h10 X e1 NL KL VT
      refine g_iload (n := 82) X hx (hb hby d1_80) rfl rfl ?_
      refine g_iload (n := 84) X hx (hb hby d1_82) rfl rfl ?_
      refine g_icmp (n := 116) (n' := 87) X hx _ (own_cge _ _) (hb hby d1_84) (by decide) (by decide) rfl (fun hc => ?_) (fun hc => ?_)
      · have hc := (own_le (by omega) (by omega)).mp hc
        refine g_iload (n := 118) X hx (hb hby d1_116) rfl rfl ?_
        refine g_retI X hx hret hlk (hb hby d1_118) (Fe.of (by decide) (by decide)) ?_
        try rw [e1]
        exact ⟨rfl, NL, KL, VT.congr (fun x hx => by
          unfold own_put
          by_cases q : o + sg ≤ x ∧ x < o + sg + own_nd md
          · rw [if_pos q, if_pos q]
            have : own_sw (own_nd md) k (x - (o + sg)) = own_nd md - 1 - (x - (o + sg)) := by unfold own_sw; split <;> omega
            simp only [this]
          · rw [if_neg q, if_neg q])⟩
      · have hc : o + sg + k < o + sg + own_nd md - 1 - k := Nat.not_le.mp (fun r => hc ((own_le (by omega) (by omega)).mpr r))
        have eA : own_sw (own_nd md) k k = k := by unfold own_sw; rw [if_neg (by omega)]
        have eB : own_sw (own_nd md) k (own_nd md - 1 - k) = own_nd md - 1 - k := by unfold own_sw; rw [if_neg (by omega)]
        have hA := own_dig_lt md k
        have hB := own_dig_lt md (own_nd md - 1 - k)
        have vA : own_put (fun x => if sg = 1 ∧ x = o then .int 45 else g x) (o + sg) (own_nd md) (fun r => own_dig md (own_sw (own_nd md) k r)) (o + sg + k) = .int (Int32.ofNat (48 + own_dig md k)) := by rw [own_put_in (by omega)]; simp only [eA]
        have vB : own_put (fun x => if sg = 1 ∧ x = o then .int 45 else g x) (o + sg) (own_nd md) (fun r => own_dig md (own_sw (own_nd md) k r)) (o + sg + own_nd md - 1 - k) = .int (Int32.ofNat (48 + own_dig md (own_nd md - 1 - k))) := by rw [show o + sg + own_nd md - 1 - k = o + sg + (own_nd md - 1 - k) by omega, own_put_in (by omega)]; simp only [eB]
        refine g_aloadN (n := 88) X hx (hb hby d1_87) rfl rfl rfl ?_
        refine g_iload (n := 90) X hx (hb hby d1_88) rfl rfl ?_
        refine g_baload (n := 91) X hx hZ e1 VT (o + sg + k) rfl (by omega) (.int (Int32.ofNat (48 + own_dig md k))) vA (hb hby d1_90) rfl ?_
        refine g_istore (n := 93) X hx (hb hby d1_91) rfl #[.val (.long v), .second, .val (.ref a1), .val (.int (Int32.ofNat o)), .val (.int (Int32.ofNat (o + sg + own_nd md))), .val (.int (Int32.ofNat (o + sg))), .val (.long rest), .second, .val (.int (Int32.ofNat (o + sg + k))), .val (.int (Int32.ofNat (o + sg + own_nd md - 1 - k))), .val (.int (Int32.ofNat (48 + own_dig md k)))] (by rcases h10 with rfl | ⟨w10, rfl⟩ <;> rfl) ?_
        refine g_aloadN (n := 94) X hx (hb hby d1_93) rfl rfl rfl ?_
        refine g_iload (n := 96) X hx (hb hby d1_94) rfl rfl ?_
        refine g_aloadN (n := 97) X hx (hb hby d1_96) rfl rfl rfl ?_
        refine g_iload (n := 99) X hx (hb hby d1_97) rfl rfl ?_
        refine g_baload (n := 100) X hx hZ e1 VT (o + sg + own_nd md - 1 - k) rfl (by omega) (.int (Int32.ofNat (48 + own_dig md (own_nd md - 1 - k)))) vB (hb hby d1_99) rfl ?_
        refine g_bastore (n := 101) X hx hZ e1 VT (o + sg + k) rfl (by omega) (hb hby d1_100) rfl ?_
        intro T11 h11 X11 e11 W11 A11
        refine g_aloadN (n := 102) X11 hx (hb hby d1_101) rfl rfl rfl ?_
        refine g_iload (n := 104) X11 hx (hb hby d1_102) rfl rfl ?_
        refine g_iload (n := 106) X11 hx (hb hby d1_104) rfl rfl ?_
        refine g_bastore (n := 107) X11 hx hZ e11 A11 (o + sg + own_nd md - 1 - k) rfl (by omega) (hb hby d1_106) rfl ?_
        intro T12 h12 X12 e12 W12 A12
        refine g_iinc (n := 110) X12 hx (hb hby d1_107) rfl rfl (Int32.ofNat (o + sg + (k + 1))) (own_inc _) #[.val (.long v), .second, .val (.ref a1), .val (.int (Int32.ofNat o)), .val (.int (Int32.ofNat (o + sg + own_nd md))), .val (.int (Int32.ofNat (o + sg))), .val (.long rest), .second, .val (.int (Int32.ofNat (o + sg + (k + 1)))), .val (.int (Int32.ofNat (o + sg + own_nd md - 1 - k))), .val (.int (Int32.ofNat (48 + own_dig md k)))] rfl ?_
        refine g_iinc (n := 113) X12 hx (hb hby d1_110) rfl rfl (Int32.ofNat (o + sg + own_nd md - 1 - (k + 1))) (own_dec _ (by omega)) #[.val (.long v), .second, .val (.ref a1), .val (.int (Int32.ofNat o)), .val (.int (Int32.ofNat (o + sg + own_nd md))), .val (.int (Int32.ofNat (o + sg))), .val (.long rest), .second, .val (.int (Int32.ofNat (o + sg + (k + 1)))), .val (.int (Int32.ofNat (o + sg + own_nd md - 1 - (k + 1)))), .val (.int (Int32.ofNat (48 + own_dig md k)))] rfl ?_
        refine g_goto (n := 80) X12 hx (hb hby d1_113) (by decide) (by decide) ?_
        refine ih (k + 1) rest _ T12 h12 _ (by omega) (by omega) (Or.inr ⟨_, rfl⟩) X12 e12 (Fr.snoc X12 (Fr.snoc X11 NL ga) ga) ((KL.wr W11 (Or.inl (by simp))).wr W12 (Or.inl (by simp))) (A12.congr (fun x hx => ?_))
        by_cases q1 : x = o + sg + own_nd md - 1 - k
        · subst q1
          rw [if_pos rfl, show o + sg + own_nd md - 1 - k = o + sg + (own_nd md - 1 - k) by omega, own_put_in (by omega)]
          have : own_sw (own_nd md) (k + 1) (own_nd md - 1 - k) = k := by unfold own_sw; rw [if_pos (by omega)]; omega
          simp only [this]
          exact congrArg Value.int (own_narb (by omega))
        · rw [if_neg q1]
          by_cases q2 : x = o + sg + k
          · subst q2
            rw [if_pos rfl, own_put_in (by omega)]
            have : own_sw (own_nd md) (k + 1) k = own_nd md - 1 - k := by unfold own_sw; rw [if_pos (by omega)]
            simp only [this]
            exact congrArg Value.int (own_narb (by omega))
          · rw [if_neg q2]
            unfold own_put
            by_cases q : o + sg ≤ x ∧ x < o + sg + own_nd md
            · rw [if_pos q, if_pos q]
              have : own_sw (own_nd md) (k + 1) (x - (o + sg)) = own_sw (own_nd md) k (x - (o + sg)) := by unfold own_sw; split <;> split <;> omega
              simp only [this]
            · rw [if_neg q, if_neg q]
  have digs : ∀ (d j : Nat) (T : State) (h : Heap) (L : List Loc), j + 1 + d = own_nd md → Stand p l e ({ frames := 0, cells := 0, slots := 0, locals := 0 } : Room) s m #[.long v, .ref a1, .int (Int32.ofNat o)] below meth c T L 0 0 → T.heap = h → Fr n0 L → Keep h0 h [a1] → Av Z h a1 .byte 32 (own_put (fun x => if sg = 1 ∧ x = o then .int 45 else g x) (o + sg) j (own_dig md)) → Go p e below (Fe s ({ frames := 0, cells := 0, slots := 0, locals := 0 } : Room).cells ({ frames := 0, cells := 0, slots := 0, locals := 0 } : Room).slots) (fun r h L => r = some (.int (Int32.ofNat (o + sg + own_nd md))) ∧ Fr n0 L ∧ Keep h0 h [a1] ∧ Av Z h a1 .byte 32 (own_put (fun x => if sg = 1 ∧ x = o then .int 45 else g x) (o + sg) (own_nd md) (fun r => own_dig md (own_nd md - 1 - r)))) T (mkF m 36 #[.val (.long v), .second, .val (.ref a1), .val (.int (Int32.ofNat o)), .val (.int (Int32.ofNat (o + sg + j))), .val (.int (Int32.ofNat (o + sg))), .val (.long (own_neg (md / 10 ^ j))), .second, .unset, .unset, .unset] []) := by
    intro d; induction d with
    | zero =>
      intro j T h L hd X e1 NL KL VT
      have hq := own_quot_le md j hm
      have hq2 := own_quot_le md (j + 1) hm
      refine g_aloadN (n := 37) X hx (hb hby d1_36) rfl rfl rfl ?_
      refine g_iload (n := 39) X hx (hb hby d1_37) rfl rfl ?_
      refine g_iinc (n := 42) X hx (hb hby d1_39) rfl rfl (Int32.ofNat (o + sg + (j + 1))) (own_inc _) #[.val (.long v), .second, .val (.ref a1), .val (.int (Int32.ofNat o)), .val (.int (Int32.ofNat (o + sg + (j + 1)))), .val (.int (Int32.ofNat (o + sg))), .val (.long (own_neg (md / 10 ^ j))), .second, .unset, .unset, .unset] rfl ?_
      refine g_ldc2 (n := 45) X hx hZ hown (hw _ (List.mem_of_getElem? (i := 5) rfl)) (hb hby d1_42) rfl ?_
      refine g_lload (n := 47) X hx (hb hby d1_45) rfl rfl ?_
      refine g_ldc2 (n := 50) X hx hZ hown (hw _ (List.mem_of_getElem? (i := 6) rfl)) (hb hby d1_47) rfl ?_
      refine g_lrem (n := 51) X hx (hb hby d1_50) rfl (by decide) ?_
      refine g_lsub (n := 52) X hx (hb hby d1_51) rfl ?_
      refine g_l2i (n := 53) X hx (hb hby d1_52) rfl ?_
      refine g_i2b (n := 54) X hx (hb hby d1_53) rfl ?_
      rw [own_digit hq]
      refine g_bastore (n := 55) X hx hZ e1 VT (o + sg + j) rfl (by omega) (hb hby d1_54) rfl ?_
      intro T13 h13 X13 e13 W13 A13
      have V1 : Av Z h13 a1 .byte 32 (own_put (fun x => if sg = 1 ∧ x = o then .int 45 else g x) (o + sg) (j + 1) (own_dig md)) := A13.congr (fun x hx => by
        have hd10 : md / 10 ^ j % 10 < 10 := Nat.mod_lt _ (by decide)
        by_cases q1 : x = o + sg + j
        · subst q1
          rw [if_pos rfl, own_put_in (by omega)]
          exact congrArg Value.int (own_narb (by omega))
        · rw [if_neg q1]
          unfold own_put
          by_cases q : o + sg ≤ x ∧ x < o + sg + j
          · rw [if_pos q, if_pos (by omega)]
          · rw [if_neg q, if_neg (by omega)])
      refine g_lload (n := 57) X13 hx (hb hby d1_55) rfl rfl ?_
      refine g_ldc2 (n := 60) X13 hx hZ hown (hw _ (List.mem_of_getElem? (i := 6) rfl)) (hb hby d1_57) rfl ?_
      refine g_ldiv (n := 61) X13 hx (hb hby d1_60) rfl (by decide) ?_
      rw [own_neg_div hq, own_pow]
      refine g_lstore (n := 63) X13 hx (hb hby d1_61) rfl #[.val (.long v), .second, .val (.ref a1), .val (.int (Int32.ofNat o)), .val (.int (Int32.ofNat (o + sg + (j + 1)))), .val (.int (Int32.ofNat (o + sg))), .val (.long (own_neg (md / 10 ^ (j + 1)))), .second, .unset, .unset, .unset] rfl ?_
      refine g_lload (n := 65) X13 hx (hb hby d1_63) rfl rfl ?_
      refine g_lconst (n := 66) X13 hx (0 : Int64) (hb hby d1_65) rfl rfl ?_
      refine g_lcmp (n := 67) X13 hx (hb hby d1_66) rfl ?_
      have ej : j + 1 = own_nd md := by omega
      refine g_if (n := 36) (n' := 70) X13 hx _ (own_zne _) (hb hby d1_67) (by decide) (by decide) rfl (fun hc => absurd hc (fun r => r ((own_cmp_eq _ _).mpr ((own_neg_zero hq2).mpr (by rw [ej]; exact own_quot_zero md hm))))) (fun _ => ?_)
      refine g_iload (n := 72) X13 hx (hb hby d1_70) rfl rfl ?_
      refine g_istore (n := 74) X13 hx (hb hby d1_72) rfl #[.val (.long v), .second, .val (.ref a1), .val (.int (Int32.ofNat o)), .val (.int (Int32.ofNat (o + sg + (j + 1)))), .val (.int (Int32.ofNat (o + sg))), .val (.long (own_neg (md / 10 ^ (j + 1)))), .second, .val (.int (Int32.ofNat (o + sg))), .unset, .unset] rfl ?_
      refine g_iload (n := 76) X13 hx (hb hby d1_74) rfl rfl ?_
      refine g_iconst (n := 77) X13 hx (1 : Int32) (hb hby d1_76) rfl rfl ?_
      refine g_isub (n := 78) X13 hx (hb hby d1_77) rfl ?_
      rw [show Int32.ofNat (o + sg + (j + 1)) - (1 : Int32) = Int32.ofNat (o + sg + (j + 1) - 1) from own_sub _ 1 (by omega)]
      refine g_istore (n := 80) X13 hx (hb hby d1_78) rfl #[.val (.long v), .second, .val (.ref a1), .val (.int (Int32.ofNat o)), .val (.int (Int32.ofNat (o + sg + (j + 1)))), .val (.int (Int32.ofNat (o + sg))), .val (.long (own_neg (md / 10 ^ (j + 1)))), .second, .val (.int (Int32.ofNat (o + sg))), .val (.int (Int32.ofNat (o + sg + (j + 1) - 1))), .unset] rfl ?_
      have G := rev (own_nd md) 0 (own_neg (md / 10 ^ own_nd md)) .unset T13 h13 _ (by omega) (by omega) (Or.inl rfl) X13 e13 (Fr.snoc X13 NL ga) (KL.wr W13 (Or.inl (by simp))) (V1.congr (fun x hx => by
        rw [ej]; unfold own_put
        by_cases q : o + sg ≤ x ∧ x < o + sg + own_nd md
        · rw [if_pos q, if_pos q]
          have : own_sw (own_nd md) 0 (x - (o + sg)) = x - (o + sg) := by unfold own_sw; rw [if_neg (by omega)]
          simp only [this]
        · rw [if_neg q, if_neg q]))
      rw [ej]
      exact G
    | succ d ih =>
      intro j T h L hd X e1 NL KL VT
      have hq := own_quot_le md j hm
      have hq2 := own_quot_le md (j + 1) hm
      refine g_aloadN (n := 37) X hx (hb hby d1_36) rfl rfl rfl ?_
      refine g_iload (n := 39) X hx (hb hby d1_37) rfl rfl ?_
      refine g_iinc (n := 42) X hx (hb hby d1_39) rfl rfl (Int32.ofNat (o + sg + (j + 1))) (own_inc _) #[.val (.long v), .second, .val (.ref a1), .val (.int (Int32.ofNat o)), .val (.int (Int32.ofNat (o + sg + (j + 1)))), .val (.int (Int32.ofNat (o + sg))), .val (.long (own_neg (md / 10 ^ j))), .second, .unset, .unset, .unset] rfl ?_
      refine g_ldc2 (n := 45) X hx hZ hown (hw _ (List.mem_of_getElem? (i := 5) rfl)) (hb hby d1_42) rfl ?_
      refine g_lload (n := 47) X hx (hb hby d1_45) rfl rfl ?_
      refine g_ldc2 (n := 50) X hx hZ hown (hw _ (List.mem_of_getElem? (i := 6) rfl)) (hb hby d1_47) rfl ?_
      refine g_lrem (n := 51) X hx (hb hby d1_50) rfl (by decide) ?_
      refine g_lsub (n := 52) X hx (hb hby d1_51) rfl ?_
      refine g_l2i (n := 53) X hx (hb hby d1_52) rfl ?_
      refine g_i2b (n := 54) X hx (hb hby d1_53) rfl ?_
      rw [own_digit hq]
      refine g_bastore (n := 55) X hx hZ e1 VT (o + sg + j) rfl (by omega) (hb hby d1_54) rfl ?_
      intro T14 h14 X14 e14 W14 A14
      have V1 : Av Z h14 a1 .byte 32 (own_put (fun x => if sg = 1 ∧ x = o then .int 45 else g x) (o + sg) (j + 1) (own_dig md)) := A14.congr (fun x hx => by
        have hd10 : md / 10 ^ j % 10 < 10 := Nat.mod_lt _ (by decide)
        by_cases q1 : x = o + sg + j
        · subst q1
          rw [if_pos rfl, own_put_in (by omega)]
          exact congrArg Value.int (own_narb (by omega))
        · rw [if_neg q1]
          unfold own_put
          by_cases q : o + sg ≤ x ∧ x < o + sg + j
          · rw [if_pos q, if_pos (by omega)]
          · rw [if_neg q, if_neg (by omega)])
      refine g_lload (n := 57) X14 hx (hb hby d1_55) rfl rfl ?_
      refine g_ldc2 (n := 60) X14 hx hZ hown (hw _ (List.mem_of_getElem? (i := 6) rfl)) (hb hby d1_57) rfl ?_
      refine g_ldiv (n := 61) X14 hx (hb hby d1_60) rfl (by decide) ?_
      rw [own_neg_div hq, own_pow]
      refine g_lstore (n := 63) X14 hx (hb hby d1_61) rfl #[.val (.long v), .second, .val (.ref a1), .val (.int (Int32.ofNat o)), .val (.int (Int32.ofNat (o + sg + (j + 1)))), .val (.int (Int32.ofNat (o + sg))), .val (.long (own_neg (md / 10 ^ (j + 1)))), .second, .unset, .unset, .unset] rfl ?_
      refine g_lload (n := 65) X14 hx (hb hby d1_63) rfl rfl ?_
      refine g_lconst (n := 66) X14 hx (0 : Int64) (hb hby d1_65) rfl rfl ?_
      refine g_lcmp (n := 67) X14 hx (hb hby d1_66) rfl ?_
      refine g_if (n := 36) (n' := 70) X14 hx _ (own_zne _) (hb hby d1_67) (by decide) (by decide) rfl (fun _ => ?_) (fun hc => absurd (fun r => own_quot_pos md j hm (by omega) ((own_neg_zero hq2).mp ((own_cmp_eq _ _).mp r))) hc)
      exact ih (j + 1) T14 h14 _ (by omega) X14 e14 (Fr.snoc X14 NL ga) (KL.wr W14 (Or.inl (by simp))) V1
  have J18 : ∀ (T : State) (h : Heap) (L : List Loc), Stand p l e ({ frames := 0, cells := 0, slots := 0, locals := 0 } : Room) s m #[.long v, .ref a1, .int (Int32.ofNat o)] below meth c T L 0 0 → T.heap = h → Fr n0 L → Keep h0 h [a1] → Av Z h a1 .byte 32 (fun x => if sg = 1 ∧ x = o then .int 45 else g x) → Go p e below (Fe s ({ frames := 0, cells := 0, slots := 0, locals := 0 } : Room).cells ({ frames := 0, cells := 0, slots := 0, locals := 0 } : Room).slots) (fun r h L => r = some (.int (Int32.ofNat (o + sg + own_nd md))) ∧ Fr n0 L ∧ Keep h0 h [a1] ∧ Av Z h a1 .byte 32 (own_put (fun x => if sg = 1 ∧ x = o then .int 45 else g x) (o + sg) (own_nd md) (fun r => own_dig md (own_nd md - 1 - r)))) T (mkF m 18 #[.val (.long v), .second, .val (.ref a1), .val (.int (Int32.ofNat o)), .val (.int (Int32.ofNat (o + sg))), .unset, .unset, .unset, .unset, .unset, .unset] []) := by
    intro T h L X e1 NL KL VT
    refine g_iload (n := 20) X hx (hb hby d1_18) rfl rfl ?_
    refine g_istore (n := 22) X hx (hb hby d1_20) rfl #[.val (.long v), .second, .val (.ref a1), .val (.int (Int32.ofNat o)), .val (.int (Int32.ofNat (o + sg))), .val (.int (Int32.ofNat (o + sg))), .unset, .unset, .unset, .unset, .unset] rfl ?_
    refine g_lloadN (n := 23) X hx (hb hby d1_22) rfl rfl ?_
    refine g_lconst (n := 24) X hx (0 : Int64) (hb hby d1_23) rfl rfl ?_
    refine g_lcmp (n := 25) X hx (hb hby d1_24) rfl ?_
    refine g_if (n := 32) (n' := 28) X hx _ (own_zge _) (hb hby d1_25) (by decide) (by decide) rfl (fun hc => ?_) (fun hc => ?_)
    · have hv : ¬ v < 0 := (own_cmp_ge _ _).mp hc
      refine g_lloadN (n := 33) X hx (hb hby d1_32) rfl rfl ?_
      refine g_lneg (n := 34) X hx (hb hby d1_33) rfl ?_
      rw [hpos hv]
      refine g_lstore (n := 36) X hx (hb hby d1_34) rfl #[.val (.long v), .second, .val (.ref a1), .val (.int (Int32.ofNat o)), .val (.int (Int32.ofNat (o + sg))), .val (.int (Int32.ofNat (o + sg))), .val (.long (own_neg md)), .second, .unset, .unset, .unset] rfl ?_
      have e0m : md = md / 10 ^ 0 := by simp
      rw [show own_neg md = own_neg (md / 10 ^ 0) from congrArg own_neg e0m]
      exact digs (own_nd md - 1) 0 T h L (by omega) X e1 NL KL (VT.congr (fun x hx => by rw [own_put_out (by omega)]))
    · have hv : v < 0 := Classical.not_not.mp (fun r => hc ((own_cmp_ge _ _).mpr r))
      refine g_lloadN (n := 29) X hx (hb hby d1_28) rfl rfl ?_
      refine g_goto (n := 34) X hx (hb hby d1_29) (by decide) (by decide) ?_
      have e0m : md = md / 10 ^ 0 := by simp
      have ev : v = own_neg (md / 10 ^ 0) := (hneg hv).trans (congrArg own_neg e0m)
      suffices hgo : Go p e below (Fe s ({ frames := 0, cells := 0, slots := 0, locals := 0 } : Room).cells ({ frames := 0, cells := 0, slots := 0, locals := 0 } : Room).slots) (fun r h L => r = some (.int (Int32.ofNat (o + sg + own_nd md))) ∧ Fr n0 L ∧ Keep h0 h [a1] ∧ Av Z h a1 .byte 32 (own_put (fun x => if sg = 1 ∧ x = o then .int 45 else g x) (o + sg) (own_nd md) (fun r => own_dig md (own_nd md - 1 - r)))) T (mkF m 34 #[.val (.long v), .second, .val (.ref a1), .val (.int (Int32.ofNat o)), .val (.int (Int32.ofNat (o + sg))), .val (.int (Int32.ofNat (o + sg))), .unset, .unset, .unset, .unset, .unset] [(.long (own_neg (md / 10 ^ 0)))]) by rw [← ev] at hgo; exact hgo
      refine g_lstore (n := 36) X hx (hb hby d1_34) rfl #[.val (.long v), .second, .val (.ref a1), .val (.int (Int32.ofNat o)), .val (.int (Int32.ofNat (o + sg))), .val (.int (Int32.ofNat (o + sg))), .val (.long (own_neg (md / 10 ^ 0))), .second, .unset, .unset, .unset] rfl ?_
      exact digs (own_nd md - 1) 0 T h L (by omega) X e1 NL KL (VT.congr (fun x hx => by rw [own_put_out (by omega)]))
  refine g_iloadN (n := 1) X0 hx (hb hby d1_0) rfl rfl ?_
  refine g_istore (n := 3) X0 hx (hb hby d1_1) rfl #[.val (.long v), .second, .val (.ref a1), .val (.int (Int32.ofNat o)), .val (.int (Int32.ofNat o)), .unset, .unset, .unset, .unset, .unset, .unset] rfl ?_
  refine g_lloadN (n := 4) X0 hx (hb hby d1_3) rfl rfl ?_
  refine g_lconst (n := 5) X0 hx (0 : Int64) (hb hby d1_4) rfl rfl ?_
  refine g_lcmp (n := 6) X0 hx (hb hby d1_5) rfl ?_
  refine g_if (n := 18) (n' := 9) X0 hx _ (own_zge _) (hb hby d1_6) (by decide) (by decide) rfl (fun hc => ?_) (fun hc => ?_)
  · have hv : ¬ v < 0 := (own_cmp_ge _ _).mp hc
    have s0 : sg = 0 := hs0 hv
    subst s0
    have G := J18 _ h0 [] X0 e0 (Fr.nil n0) (Keep.refl _ _) (V.congr (fun x hx => by rw [if_neg (by omega)]))
    exact G
  · have hv : v < 0 := Classical.not_not.mp (fun r => hc ((own_cmp_ge _ _).mpr r))
    have s1 : sg = 1 := hs1 hv
    subst s1
    refine g_aloadN (n := 10) X0 hx (hb hby d1_9) rfl rfl rfl ?_
    refine g_iload (n := 12) X0 hx (hb hby d1_10) rfl rfl ?_
    refine g_iinc (n := 15) X0 hx (hb hby d1_12) rfl rfl (Int32.ofNat (o + 1)) (own_inc _) #[.val (.long v), .second, .val (.ref a1), .val (.int (Int32.ofNat o)), .val (.int (Int32.ofNat (o + 1))), .unset, .unset, .unset, .unset, .unset, .unset] rfl ?_
    refine g_bipush (n := 17) X0 hx (45 : Int32) (hb hby d1_15) rfl rfl ?_
    refine g_bastore (n := 18) X0 hx hZ e0 V o rfl (by omega) (hb hby d1_17) rfl ?_
    intro T15 h15 X15 e15 W15 A15
    have G := J18 T15 h15 _ X15 e15 (Fr.snoc X15 (Fr.nil n0) ga) ((Keep.refl _ _).wr W15 (Or.inl (by simp))) (A15.congr (fun x hx => by
      by_cases q : x = o
      · rw [if_pos q, if_pos ⟨rfl, q⟩]; rfl
      · rw [if_neg q, if_neg (fun r => q r.2)]))
    exact G
theorem d3_0 : decode prog_50_method_2_code 0 = .ok (.iload_n 1, 1) := by decide +kernel
theorem d3_1 : decode prog_50_method_2_code 1 = .ok (.iload_n 2, 1) := by decide +kernel
theorem d3_2 : decode prog_50_method_2_code 2 = .ok (.if_icmp .ge 15, 3) := by decide +kernel
theorem d3_5 : decode prog_50_method_2_code 5 = .ok (.aload_n 0, 1) := by decide +kernel
theorem d3_6 : decode prog_50_method_2_code 6 = .ok (.iload_n 1, 1) := by decide +kernel
theorem d3_7 : decode prog_50_method_2_code 7 = .ok (.baload, 1) := by decide +kernel
theorem d3_8 : decode prog_50_method_2_code 8 = .ok (.bipush 45, 2) := by decide +kernel
theorem d3_10 : decode prog_50_method_2_code 10 = .ok (.if_icmp .ne 7, 3) := by decide +kernel
theorem d3_13 : decode prog_50_method_2_code 13 = .ok (.iconst 1, 1) := by decide +kernel
theorem d3_14 : decode prog_50_method_2_code 14 = .ok (.goto 4, 3) := by decide +kernel
theorem d3_17 : decode prog_50_method_2_code 17 = .ok (.iconst 0, 1) := by decide +kernel
theorem d3_18 : decode prog_50_method_2_code 18 = .ok (.istore_n 3, 1) := by decide +kernel
theorem d3_19 : decode prog_50_method_2_code 19 = .ok (.iload_n 3, 1) := by decide +kernel
theorem d3_20 : decode prog_50_method_2_code 20 = .ok (.ifCond .eq 9, 3) := by decide +kernel
theorem d3_23 : decode prog_50_method_2_code 23 = .ok (.iload_n 1, 1) := by decide +kernel
theorem d3_24 : decode prog_50_method_2_code 24 = .ok (.iconst 1, 1) := by decide +kernel
theorem d3_25 : decode prog_50_method_2_code 25 = .ok (.iadd, 1) := by decide +kernel
theorem d3_26 : decode prog_50_method_2_code 26 = .ok (.goto 4, 3) := by decide +kernel
theorem d3_29 : decode prog_50_method_2_code 29 = .ok (.iload_n 1, 1) := by decide +kernel
theorem d3_30 : decode prog_50_method_2_code 30 = .ok (.istore 4, 2) := by decide +kernel
theorem d3_32 : decode prog_50_method_2_code 32 = .ok (.iload 4, 2) := by decide +kernel
theorem d3_34 : decode prog_50_method_2_code 34 = .ok (.iload_n 2, 1) := by decide +kernel
theorem d3_35 : decode prog_50_method_2_code 35 = .ok (.if_icmp .eq 24, 3) := by decide +kernel
theorem d3_38 : decode prog_50_method_2_code 38 = .ok (.aload_n 0, 1) := by decide +kernel
theorem d3_39 : decode prog_50_method_2_code 39 = .ok (.iload 4, 2) := by decide +kernel
theorem d3_41 : decode prog_50_method_2_code 41 = .ok (.baload, 1) := by decide +kernel
theorem d3_42 : decode prog_50_method_2_code 42 = .ok (.bipush 48, 2) := by decide +kernel
theorem d3_44 : decode prog_50_method_2_code 44 = .ok (.if_icmp .ne 25, 3) := by decide +kernel
theorem d3_47 : decode prog_50_method_2_code 47 = .ok (.iload_n 3, 1) := by decide +kernel
theorem d3_48 : decode prog_50_method_2_code 48 = .ok (.ifCond .ne 11, 3) := by decide +kernel
theorem d3_51 : decode prog_50_method_2_code 51 = .ok (.iload_n 2, 1) := by decide +kernel
theorem d3_52 : decode prog_50_method_2_code 52 = .ok (.iload 4, 2) := by decide +kernel
theorem d3_54 : decode prog_50_method_2_code 54 = .ok (.isub, 1) := by decide +kernel
theorem d3_55 : decode prog_50_method_2_code 55 = .ok (.iconst 1, 1) := by decide +kernel
theorem d3_56 : decode prog_50_method_2_code 56 = .ok (.if_icmp .le 13, 3) := by decide +kernel
theorem d3_59 : decode prog_50_method_2_code 59 = .ok (.new 7, 3) := by decide +kernel
theorem d3_62 : decode prog_50_method_2_code 62 = .ok (.dup, 1) := by decide +kernel
theorem d3_63 : decode prog_50_method_2_code 63 = .ok (.ldc 11, 2) := by decide +kernel
theorem d3_65 : decode prog_50_method_2_code 65 = .ok (.invokespecial 13, 3) := by decide +kernel
theorem d3_68 : decode prog_50_method_2_code 68 = .ok (.athrow, 1) := by decide +kernel
theorem d3_69 : decode prog_50_method_2_code 69 = .ok (.lconst 0, 1) := by decide +kernel
theorem d3_70 : decode prog_50_method_2_code 70 = .ok (.lstore 5, 2) := by decide +kernel
theorem d3_72 : decode prog_50_method_2_code 72 = .ok (.iload 4, 2) := by decide +kernel
theorem d3_74 : decode prog_50_method_2_code 74 = .ok (.istore 7, 2) := by decide +kernel
theorem d3_76 : decode prog_50_method_2_code 76 = .ok (.iload 7, 2) := by decide +kernel
theorem d3_78 : decode prog_50_method_2_code 78 = .ok (.iload_n 2, 1) := by decide +kernel
theorem d3_79 : decode prog_50_method_2_code 79 = .ok (.if_icmp .ge 79, 3) := by decide +kernel
theorem d3_82 : decode prog_50_method_2_code 82 = .ok (.aload_n 0, 1) := by decide +kernel
theorem d3_83 : decode prog_50_method_2_code 83 = .ok (.iload 7, 2) := by decide +kernel
theorem d3_85 : decode prog_50_method_2_code 85 = .ok (.baload, 1) := by decide +kernel
theorem d3_86 : decode prog_50_method_2_code 86 = .ok (.bipush 48, 2) := by decide +kernel
theorem d3_88 : decode prog_50_method_2_code 88 = .ok (.isub, 1) := by decide +kernel
theorem d3_89 : decode prog_50_method_2_code 89 = .ok (.istore 8, 2) := by decide +kernel
theorem d3_91 : decode prog_50_method_2_code 91 = .ok (.iload 8, 2) := by decide +kernel
theorem d3_93 : decode prog_50_method_2_code 93 = .ok (.ifCond .lt 10, 3) := by decide +kernel
theorem d3_96 : decode prog_50_method_2_code 96 = .ok (.iload 8, 2) := by decide +kernel
theorem d3_98 : decode prog_50_method_2_code 98 = .ok (.bipush 9, 2) := by decide +kernel
theorem d3_100 : decode prog_50_method_2_code 100 = .ok (.if_icmp .le 13, 3) := by decide +kernel
theorem d3_103 : decode prog_50_method_2_code 103 = .ok (.new 7, 3) := by decide +kernel
theorem d3_106 : decode prog_50_method_2_code 106 = .ok (.dup, 1) := by decide +kernel
theorem d3_107 : decode prog_50_method_2_code 107 = .ok (.ldc 11, 2) := by decide +kernel
theorem d3_109 : decode prog_50_method_2_code 109 = .ok (.invokespecial 13, 3) := by decide +kernel
theorem d3_112 : decode prog_50_method_2_code 112 = .ok (.athrow, 1) := by decide +kernel
theorem d3_113 : decode prog_50_method_2_code 113 = .ok (.lload 5, 2) := by decide +kernel
theorem d3_115 : decode prog_50_method_2_code 115 = .ok (.ldc2_w 18, 3) := by decide +kernel
theorem d3_118 : decode prog_50_method_2_code 118 = .ok (.iload 8, 2) := by decide +kernel
theorem d3_120 : decode prog_50_method_2_code 120 = .ok (.i2l, 1) := by decide +kernel
theorem d3_121 : decode prog_50_method_2_code 121 = .ok (.ladd, 1) := by decide +kernel
theorem d3_122 : decode prog_50_method_2_code 122 = .ok (.ldc2_w 20, 3) := by decide +kernel
theorem d3_125 : decode prog_50_method_2_code 125 = .ok (.ldiv, 1) := by decide +kernel
theorem d3_126 : decode prog_50_method_2_code 126 = .ok (.lcmp, 1) := by decide +kernel
theorem d3_127 : decode prog_50_method_2_code 127 = .ok (.ifCond .ge 13, 3) := by decide +kernel
theorem d3_130 : decode prog_50_method_2_code 130 = .ok (.new 7, 3) := by decide +kernel
theorem d3_133 : decode prog_50_method_2_code 133 = .ok (.dup, 1) := by decide +kernel
theorem d3_134 : decode prog_50_method_2_code 134 = .ok (.ldc 22, 2) := by decide +kernel
theorem d3_136 : decode prog_50_method_2_code 136 = .ok (.invokespecial 13, 3) := by decide +kernel
theorem d3_139 : decode prog_50_method_2_code 139 = .ok (.athrow, 1) := by decide +kernel
theorem d3_140 : decode prog_50_method_2_code 140 = .ok (.lload 5, 2) := by decide +kernel
theorem d3_142 : decode prog_50_method_2_code 142 = .ok (.ldc2_w 20, 3) := by decide +kernel
theorem d3_145 : decode prog_50_method_2_code 145 = .ok (.lmul, 1) := by decide +kernel
theorem d3_146 : decode prog_50_method_2_code 146 = .ok (.iload 8, 2) := by decide +kernel
theorem d3_148 : decode prog_50_method_2_code 148 = .ok (.i2l, 1) := by decide +kernel
theorem d3_149 : decode prog_50_method_2_code 149 = .ok (.lsub, 1) := by decide +kernel
theorem d3_150 : decode prog_50_method_2_code 150 = .ok (.lstore 5, 2) := by decide +kernel
theorem d3_152 : decode prog_50_method_2_code 152 = .ok (.iinc 7 1, 3) := by decide +kernel
theorem d3_155 : decode prog_50_method_2_code 155 = .ok (.goto (-79), 3) := by decide +kernel
theorem d3_158 : decode prog_50_method_2_code 158 = .ok (.iload_n 3, 1) := by decide +kernel
theorem d3_159 : decode prog_50_method_2_code 159 = .ok (.ifCond .eq 6, 3) := by decide +kernel
theorem d3_162 : decode prog_50_method_2_code 162 = .ok (.lload 5, 2) := by decide +kernel
theorem d3_164 : decode prog_50_method_2_code 164 = .ok (.lreturn, 1) := by decide +kernel
theorem d3_165 : decode prog_50_method_2_code 165 = .ok (.lload 5, 2) := by decide +kernel
theorem d3_167 : decode prog_50_method_2_code 167 = .ok (.ldc2_w 18, 3) := by decide +kernel
theorem d3_170 : decode prog_50_method_2_code 170 = .ok (.lcmp, 1) := by decide +kernel
theorem d3_171 : decode prog_50_method_2_code 171 = .ok (.ifCond .ne 13, 3) := by decide +kernel
theorem d3_174 : decode prog_50_method_2_code 174 = .ok (.new 7, 3) := by decide +kernel
theorem d3_177 : decode prog_50_method_2_code 177 = .ok (.dup, 1) := by decide +kernel
theorem d3_178 : decode prog_50_method_2_code 178 = .ok (.ldc 22, 2) := by decide +kernel
theorem d3_180 : decode prog_50_method_2_code 180 = .ok (.invokespecial 13, 3) := by decide +kernel
theorem d3_183 : decode prog_50_method_2_code 183 = .ok (.athrow, 1) := by decide +kernel
theorem d3_184 : decode prog_50_method_2_code 184 = .ok (.lload 5, 2) := by decide +kernel
theorem d3_186 : decode prog_50_method_2_code 186 = .ok (.lneg, 1) := by decide +kernel
theorem d3_187 : decode prog_50_method_2_code 187 = .ok (.lreturn, 1) := by decide +kernel
theorem pn_3 : plainFor (⟨"com/example/tidemark/tidemark/Decimal", "parse", "([BII)J"⟩ : MethodName) = true := by first | (exact plainFor_of_name (by first | (simp [plainName, overriddenIn, x]; done) | decide +kernel)) | decide +kernel
set_option maxRecDepth 65536 in
set_option maxHeartbeats 40000000 in
theorem rm3 (l : Launch) (Z : State) (a0 : Array Value) (hw : ∀ d ∈ tables_1, d.before a0 Z = true) (v : Int64) (a1 : Nat) (o sg md : Nat) (g : Nat → Value) (h0 : Heap) (V : Av Z h0 a1 .byte 32 g) (ho : o ≤ 7) (hsg : sg ≤ 1) (hm : md ≤ 9223372036854775808) (hdg : ∀ r, r < own_nd md → g (o + sg + r) = .int (Int32.ofNat (48 + own_dig md (own_nd md - 1 - r)))) (h45 : sg = 1 → g o = .int 45) (hnz : sg = 1 → ¬ md = 0) (hs0' : sg = 0 → ¬ v < 0) (hs1' : sg = 1 → v < 0) (hpos : ¬ v < 0 → -(own_neg md) = v) (hpos2 : ¬ v < 0 → ¬ own_neg md = (-9223372036854775808 : Int64)) (hneg : v < 0 → v = own_neg md) :
    OMet l Z (⟨"com/example/tidemark/tidemark/Decimal", "parse", "([BII)J"⟩ : MethodName) prog_50_method_2_code 9 (some (.long)) [] ({ frames := 0, cells := 0, slots := 0, locals := 0 } : Room) #[.ref a1, .int (Int32.ofNat o), .int (Int32.ofNat (o + sg + own_nd md))] h0 (Pu (.long v) h0) := by
  refine own_body (Ls := #[.val (.ref a1), .val (.int (Int32.ofNat o)), .val (.int (Int32.ofNat (o + sg + own_nd md))), .unset, .unset, .unset, .unset, .unset, .unset]) pn_3 (fun m => by first | (simp [entryFrame, mkF, argsToLocals, Value.category, maxLocals]; done) | rfl) ?_
  intro p e s m below meth c s₁ X0 hx hby hml hown hnm hret hlk hZ e0
  have hsp := own_nd_spec md hm
  have loop : ∀ (d r : Nat) (s8 : Slot), r + d = own_nd md → (s8 = .unset ∨ ∃ w8 : Int32, s8 = .val (.int w8)) → Go p e below (Fe s ({ frames := 0, cells := 0, slots := 0, locals := 0 } : Room).cells ({ frames := 0, cells := 0, slots := 0, locals := 0 } : Room).slots) (Pu (.long v) h0) s₁ (mkF m 76 #[.val (.ref a1), .val (.int (Int32.ofNat o)), .val (.int (Int32.ofNat (o + sg + own_nd md))), .val (.int (Int32.ofNat sg)), .val (.int (Int32.ofNat (o + sg))), .val (.long (own_neg (md / 10 ^ (own_nd md - r)))), .second, .val (.int (Int32.ofNat (o + sg + r))), s8] []) := by
    intro d; induction d with
    | zero =>
      intro r s8 hr h8
      have er : r = own_nd md := by omega
      refine g_iload (n := 78) X0 hx (hb hby d3_76) rfl rfl ?_
      refine g_iloadN (n := 79) X0 hx (hb hby d3_78) rfl rfl ?_
      refine g_icmp (n := 158) (n' := 82) X0 hx _ (own_cge _ _) (hb hby d3_79) (by decide) (by decide) rfl (fun _ => ?_) (fun hc => absurd ((own_le (by omega) (by omega)).mpr (by omega)) hc)
      refine g_iloadN (n := 159) X0 hx (hb hby d3_158) rfl rfl ?_
      have e0v : own_neg (md / 10 ^ (own_nd md - r)) = own_neg md := by rw [er]; simp
      refine g_if (n := 165) (n' := 162) X0 hx _ (own_zeq _) (hb hby d3_159) (by decide) (by decide) rfl (fun hc => ?_) (fun hc => ?_)
      · have s0 : sg = 0 := (own_eq (n := 0) (by omega) (by omega)).mp hc
        have hv := hs0' s0
        refine g_lload (n := 167) X0 hx (hb hby d3_165) rfl rfl ?_
        refine g_ldc2 (n := 170) X0 hx hZ hown (hw _ (List.mem_of_getElem? (i := 17) rfl)) (hb hby d3_167) rfl ?_
        refine g_lcmp (n := 171) X0 hx (hb hby d3_170) rfl ?_
        refine g_if (n := 184) (n' := 174) X0 hx _ (own_zne _) (hb hby d3_171) (by decide) (by decide) rfl (fun _ => ?_) (fun hc => absurd (fun z => by have z := (own_cmp_eq _ _).mp z; rw [e0v] at z; exact hpos2 hv z) hc)
        refine g_lload (n := 186) X0 hx (hb hby d3_184) rfl rfl ?_
        refine g_lneg (n := 187) X0 hx (hb hby d3_186) rfl ?_
        refine g_retJ X0 hx hret hlk (hb hby d3_187) (Fe.of (by decide) (by decide)) ?_
        try rw [e0]
        exact ⟨by rw [e0v]; exact congrArg (fun z => some (Value.long z)) (hpos hv), rfl, rfl⟩
      · have s1 : sg = 1 := Nat.le_antisymm hsg (Nat.pos_of_ne_zero (fun z => hc (by rw [z]; rfl)))
        have hv := hs1' s1
        refine g_lload (n := 164) X0 hx (hb hby d3_162) rfl rfl ?_
        refine g_retJ X0 hx hret hlk (hb hby d3_164) (Fe.of (by decide) (by decide)) ?_
        try rw [e0]
        exact ⟨by rw [e0v]; exact congrArg (fun z => some (Value.long z)) (hneg hv).symm, rfl, rfl⟩
    | succ d ih =>
      intro r s8 hr h8
      have hpre := own_pre md r hm (by omega)
      have hdl := own_dig_lt md (own_nd md - 1 - r)
      have hq2 := own_quot_le md (own_nd md - (r + 1)) hm
      refine g_iload (n := 78) X0 hx (hb hby d3_76) rfl rfl ?_
      refine g_iloadN (n := 79) X0 hx (hb hby d3_78) rfl rfl ?_
      refine g_icmp (n := 158) (n' := 82) X0 hx _ (own_cge _ _) (hb hby d3_79) (by decide) (by decide) rfl (fun hc => absurd hc (fun z => absurd ((own_le (by omega) (by omega)).mp z) (by omega))) (fun _ => ?_)
      refine g_aloadN (n := 83) X0 hx (hb hby d3_82) rfl rfl rfl ?_
      refine g_iload (n := 85) X0 hx (hb hby d3_83) rfl rfl ?_
      refine g_baload (n := 86) X0 hx hZ e0 V (o + sg + r) rfl (by omega) (.int (Int32.ofNat (48 + own_dig md (own_nd md - 1 - r)))) (hdg r (by omega)) (hb hby d3_85) rfl ?_
      refine g_bipush (n := 88) X0 hx (48 : Int32) (hb hby d3_86) rfl rfl ?_
      refine g_isub (n := 89) X0 hx (hb hby d3_88) rfl ?_
      rw [show Int32.ofNat (48 + own_dig md (own_nd md - 1 - r)) - (48 : Int32) = Int32.ofNat (own_dig md (own_nd md - 1 - r)) from (own_sub _ 48 (by omega)).trans (by rw [Nat.add_sub_cancel_left])]
      refine g_istore (n := 91) X0 hx (hb hby d3_89) rfl #[.val (.ref a1), .val (.int (Int32.ofNat o)), .val (.int (Int32.ofNat (o + sg + own_nd md))), .val (.int (Int32.ofNat sg)), .val (.int (Int32.ofNat (o + sg))), .val (.long (own_neg (md / 10 ^ (own_nd md - r)))), .second, .val (.int (Int32.ofNat (o + sg + r))), .val (.int (Int32.ofNat (own_dig md (own_nd md - 1 - r))))] (by rcases h8 with rfl | ⟨w8, rfl⟩ <;> rfl) ?_
      refine g_iload (n := 93) X0 hx (hb hby d3_91) rfl rfl ?_
      refine g_if (n := 103) (n' := 96) X0 hx _ (own_zlt _) (hb hby d3_93) (by decide) (by decide) rfl (fun hc => absurd hc (own_nat (by omega)).2) (fun _ => ?_)
      refine g_iload (n := 98) X0 hx (hb hby d3_96) rfl rfl ?_
      refine g_bipush (n := 100) X0 hx (9 : Int32) (hb hby d3_98) rfl rfl ?_
      refine g_icmp (n := 113) (n' := 103) X0 hx _ (own_cle _ _) (hb hby d3_100) (by decide) (by decide) rfl (fun _ => ?_) (fun hc => absurd ((own_le (n := own_dig md (own_nd md - 1 - r)) (i := 9) (by omega) (by omega)).mpr (by omega)) hc)
      refine g_lload (n := 115) X0 hx (hb hby d3_113) rfl rfl ?_
      refine g_ldc2 (n := 118) X0 hx hZ hown (hw _ (List.mem_of_getElem? (i := 17) rfl)) (hb hby d3_115) rfl ?_
      refine g_iload (n := 120) X0 hx (hb hby d3_118) rfl rfl ?_
      refine g_i2l (n := 121) X0 hx (hb hby d3_120) rfl ?_
      refine g_ladd (n := 122) X0 hx (hb hby d3_121) rfl ?_
      refine g_ldc2 (n := 125) X0 hx hZ hown (hw _ (List.mem_of_getElem? (i := 6) rfl)) (hb hby d3_122) rfl ?_
      refine g_ldiv (n := 126) X0 hx (hb hby d3_125) rfl (by decide) ?_
      refine g_lcmp (n := 127) X0 hx (hb hby d3_126) rfl ?_
      refine g_if (n := 140) (n' := 130) X0 hx _ (own_zge _) (hb hby d3_127) (by decide) (by decide) rfl (fun _ => ?_) (fun hc => absurd ((own_cmp_ge _ _).mpr (own_rng (by omega) hdl)) hc)
      refine g_lload (n := 142) X0 hx (hb hby d3_140) rfl rfl ?_
      refine g_ldc2 (n := 145) X0 hx hZ hown (hw _ (List.mem_of_getElem? (i := 6) rfl)) (hb hby d3_142) rfl ?_
      refine g_lmul (n := 146) X0 hx (hb hby d3_145) rfl ?_
      refine g_iload (n := 148) X0 hx (hb hby d3_146) rfl rfl ?_
      refine g_i2l (n := 149) X0 hx (hb hby d3_148) rfl ?_
      refine g_lsub (n := 150) X0 hx (hb hby d3_149) rfl ?_
      rw [own_acc (by omega) hdl, hpre]
      refine g_lstore (n := 152) X0 hx (hb hby d3_150) rfl #[.val (.ref a1), .val (.int (Int32.ofNat o)), .val (.int (Int32.ofNat (o + sg + own_nd md))), .val (.int (Int32.ofNat sg)), .val (.int (Int32.ofNat (o + sg))), .val (.long (own_neg (md / 10 ^ (own_nd md - (r + 1))))), .second, .val (.int (Int32.ofNat (o + sg + r))), .val (.int (Int32.ofNat (own_dig md (own_nd md - 1 - r))))] rfl ?_
      refine g_iinc (n := 155) X0 hx (hb hby d3_152) rfl rfl (Int32.ofNat (o + sg + (r + 1))) (own_inc _) #[.val (.ref a1), .val (.int (Int32.ofNat o)), .val (.int (Int32.ofNat (o + sg + own_nd md))), .val (.int (Int32.ofNat sg)), .val (.int (Int32.ofNat (o + sg))), .val (.long (own_neg (md / 10 ^ (own_nd md - (r + 1))))), .second, .val (.int (Int32.ofNat (o + sg + (r + 1)))), .val (.int (Int32.ofNat (own_dig md (own_nd md - 1 - r))))] rfl ?_
      refine g_goto (n := 76) X0 hx (hb hby d3_155) (by decide) (by decide) ?_
      exact ih (r + 1) _ (by omega) (Or.inr ⟨_, rfl⟩)
  have hd0 := hdg 0 (by omega)
  have hdl0 := own_dig_lt md (own_nd md - 1)
  refine g_iloadN (n := 1) X0 hx (hb hby d3_0) rfl rfl ?_
  refine g_iloadN (n := 2) X0 hx (hb hby d3_1) rfl rfl ?_
  refine g_icmp (n := 17) (n' := 5) X0 hx _ (own_cge _ _) (hb hby d3_2) (by decide) (by decide) rfl (fun hc => absurd hc (fun z => absurd ((own_le (by omega) (by omega)).mp z) (by omega))) (fun _ => ?_)
  refine g_aloadN (n := 6) X0 hx (hb hby d3_5) rfl rfl rfl ?_
  refine g_iloadN (n := 7) X0 hx (hb hby d3_6) rfl rfl ?_
  rcases (show sg = 0 ∨ sg = 1 by omega) with rfl | rfl
  · have hd0' : g o = .int (Int32.ofNat (48 + own_dig md (own_nd md - 1))) := by simpa using hd0
    refine g_baload (n := 8) X0 hx hZ e0 V o rfl (by omega) (.int (Int32.ofNat (48 + own_dig md (own_nd md - 1)))) hd0' (hb hby d3_7) rfl ?_
    refine g_bipush (n := 10) X0 hx (45 : Int32) (hb hby d3_8) rfl rfl ?_
    refine g_icmp (n := 17) (n' := 13) X0 hx _ (own_cne _ _) (hb hby d3_10) (by decide) (by decide) rfl (fun _ => ?_) (fun hc => absurd (fun z => absurd ((own_eq (n := 45) (by omega) (by omega)).mp z) (by omega)) hc)
    refine g_iconst (n := 18) X0 hx (0 : Int32) (hb hby d3_17) rfl rfl ?_
    refine g_istoreN (n := 19) X0 hx (hb hby d3_18) rfl #[.val (.ref a1), .val (.int (Int32.ofNat o)), .val (.int (Int32.ofNat (o + 0 + own_nd md))), .val (.int (0 : Int32)), .unset, .unset, .unset, .unset, .unset] rfl ?_
    refine g_iloadN (n := 20) X0 hx (hb hby d3_19) rfl rfl ?_
    refine g_if (n := 29) (n' := 23) X0 hx _ (own_zeq _) (hb hby d3_20) (by decide) (by decide) rfl (fun _ => ?_) (fun hc => absurd (by decide) hc)
    refine g_iloadN (n := 30) X0 hx (hb hby d3_29) rfl rfl ?_
    refine g_istore (n := 32) X0 hx (hb hby d3_30) rfl #[.val (.ref a1), .val (.int (Int32.ofNat o)), .val (.int (Int32.ofNat (o + 0 + own_nd md))), .val (.int (0 : Int32)), .val (.int (Int32.ofNat o)), .unset, .unset, .unset, .unset] rfl ?_
    refine g_iload (n := 34) X0 hx (hb hby d3_32) rfl rfl ?_
    refine g_iloadN (n := 35) X0 hx (hb hby d3_34) rfl rfl ?_
    refine g_icmp (n := 59) (n' := 38) X0 hx _ (own_ceq _ _) (hb hby d3_35) (by decide) (by decide) rfl (fun hc => absurd hc (fun z => absurd ((own_eq (by omega) (by omega)).mp z) (by omega))) (fun _ => ?_)
    refine g_aloadN (n := 39) X0 hx (hb hby d3_38) rfl rfl rfl ?_
    refine g_iload (n := 41) X0 hx (hb hby d3_39) rfl rfl ?_
    refine g_baload (n := 42) X0 hx hZ e0 V (o) rfl (by omega) (.int (Int32.ofNat (48 + own_dig md (own_nd md - 1)))) hd0' (hb hby d3_41) rfl ?_
    refine g_bipush (n := 44) X0 hx (48 : Int32) (hb hby d3_42) rfl rfl ?_
    refine g_icmp (n := 69) (n' := 47) X0 hx _ (own_cne _ _) (hb hby d3_44) (by decide) (by decide) rfl (fun hc => ?_) (fun hc => ?_)
    · refine g_lconst (n := 70) X0 hx (0 : Int64) (hb hby d3_69) rfl rfl ?_
      refine g_lstore (n := 72) X0 hx (hb hby d3_70) rfl #[.val (.ref a1), .val (.int (Int32.ofNat o)), .val (.int (Int32.ofNat (o + 0 + own_nd md))), .val (.int (0 : Int32)), .val (.int (Int32.ofNat o)), .val (.long (0 : Int64)), .second, .unset, .unset] rfl ?_
      refine g_iload (n := 74) X0 hx (hb hby d3_72) rfl rfl ?_
      refine g_istore (n := 76) X0 hx (hb hby d3_74) rfl #[.val (.ref a1), .val (.int (Int32.ofNat o)), .val (.int (Int32.ofNat (o + 0 + own_nd md))), .val (.int (0 : Int32)), .val (.int (Int32.ofNat o)), .val (.long (0 : Int64)), .second, .val (.int (Int32.ofNat o)), .unset] rfl ?_
      have G := loop (own_nd md) 0 .unset (by omega) (Or.inl rfl)
      have z0 : own_neg (md / 10 ^ (own_nd md - 0)) = 0 := (own_neg_zero (own_quot_le _ _ hm)).mpr (own_quot_zero md hm)
      rw [z0] at G
      exact G
    · have h00 : own_dig md (own_nd md - 1) = 0 := by have := (own_eq (n := 48) (by omega) (by omega)).mp (Classical.not_not.mp hc); omega
      have hz := own_lead md hm h00
      refine g_iloadN (n := 48) X0 hx (hb hby d3_47) rfl rfl ?_
      refine g_if (n := 59) (n' := 51) X0 hx _ (own_zne _) (hb hby d3_48) (by decide) (by decide) rfl (fun hc => absurd hc (by decide)) (fun _ => ?_)
      refine g_iloadN (n := 52) X0 hx (hb hby d3_51) rfl rfl ?_
      refine g_iload (n := 54) X0 hx (hb hby d3_52) rfl rfl ?_
      refine g_isub (n := 55) X0 hx (hb hby d3_54) rfl ?_
      rw [own_sub _ _ (by omega)]
      refine g_iconst (n := 56) X0 hx (1 : Int32) (hb hby d3_55) rfl rfl ?_
      refine g_icmp (n := 69) (n' := 59) X0 hx _ (own_cle _ _) (hb hby d3_56) (by decide) (by decide) rfl (fun _ => ?_) (fun hc => absurd ((own_le (n := o + 0 + own_nd md - o) (i := 1) (by omega) (by omega)).mpr (by omega)) hc)
      refine g_lconst (n := 70) X0 hx (0 : Int64) (hb hby d3_69) rfl rfl ?_
      refine g_lstore (n := 72) X0 hx (hb hby d3_70) rfl #[.val (.ref a1), .val (.int (Int32.ofNat o)), .val (.int (Int32.ofNat (o + 0 + own_nd md))), .val (.int (0 : Int32)), .val (.int (Int32.ofNat o)), .val (.long (0 : Int64)), .second, .unset, .unset] rfl ?_
      refine g_iload (n := 74) X0 hx (hb hby d3_72) rfl rfl ?_
      refine g_istore (n := 76) X0 hx (hb hby d3_74) rfl #[.val (.ref a1), .val (.int (Int32.ofNat o)), .val (.int (Int32.ofNat (o + 0 + own_nd md))), .val (.int (0 : Int32)), .val (.int (Int32.ofNat o)), .val (.long (0 : Int64)), .second, .val (.int (Int32.ofNat o)), .unset] rfl ?_
      have G := loop (own_nd md) 0 .unset (by omega) (Or.inl rfl)
      have z0 : own_neg (md / 10 ^ (own_nd md - 0)) = 0 := (own_neg_zero (own_quot_le _ _ hm)).mpr (own_quot_zero md hm)
      rw [z0] at G
      exact G
  · have hd1 : g (o + 1) = .int (Int32.ofNat (48 + own_dig md (own_nd md - 1))) := by simpa using hd0
    refine g_baload (n := 8) X0 hx hZ e0 V o rfl (by omega) (.int (45 : Int32)) (h45 rfl) (hb hby d3_7) rfl ?_
    refine g_bipush (n := 10) X0 hx (45 : Int32) (hb hby d3_8) rfl rfl ?_
    refine g_icmp (n := 17) (n' := 13) X0 hx _ (own_cne _ _) (hb hby d3_10) (by decide) (by decide) rfl (fun hc => absurd hc (by decide)) (fun _ => ?_)
    refine g_iconst (n := 14) X0 hx (1 : Int32) (hb hby d3_13) rfl rfl ?_
    refine g_goto (n := 18) X0 hx (hb hby d3_14) (by decide) (by decide) ?_
    refine g_istoreN (n := 19) X0 hx (hb hby d3_18) rfl #[.val (.ref a1), .val (.int (Int32.ofNat o)), .val (.int (Int32.ofNat (o + 1 + own_nd md))), .val (.int (1 : Int32)), .unset, .unset, .unset, .unset, .unset] rfl ?_
    refine g_iloadN (n := 20) X0 hx (hb hby d3_19) rfl rfl ?_
    refine g_if (n := 29) (n' := 23) X0 hx _ (own_zeq _) (hb hby d3_20) (by decide) (by decide) rfl (fun hc => absurd hc (by decide)) (fun _ => ?_)
    refine g_iloadN (n := 24) X0 hx (hb hby d3_23) rfl rfl ?_
    refine g_iconst (n := 25) X0 hx (1 : Int32) (hb hby d3_24) rfl rfl ?_
    refine g_iadd (n := 26) X0 hx (hb hby d3_25) rfl ?_
    refine g_goto (n := 30) X0 hx (hb hby d3_26) (by decide) (by decide) ?_
    rw [show Int32.ofNat o + (1 : Int32) = Int32.ofNat (o + 1) from own_inc o]
    refine g_istore (n := 32) X0 hx (hb hby d3_30) rfl #[.val (.ref a1), .val (.int (Int32.ofNat o)), .val (.int (Int32.ofNat (o + 1 + own_nd md))), .val (.int (1 : Int32)), .val (.int (Int32.ofNat (o + 1))), .unset, .unset, .unset, .unset] rfl ?_
    refine g_iload (n := 34) X0 hx (hb hby d3_32) rfl rfl ?_
    refine g_iloadN (n := 35) X0 hx (hb hby d3_34) rfl rfl ?_
    refine g_icmp (n := 59) (n' := 38) X0 hx _ (own_ceq _ _) (hb hby d3_35) (by decide) (by decide) rfl (fun hc => absurd hc (fun z => absurd ((own_eq (by omega) (by omega)).mp z) (by omega))) (fun _ => ?_)
    refine g_aloadN (n := 39) X0 hx (hb hby d3_38) rfl rfl rfl ?_
    refine g_iload (n := 41) X0 hx (hb hby d3_39) rfl rfl ?_
    refine g_baload (n := 42) X0 hx hZ e0 V (o + 1) rfl (by omega) (.int (Int32.ofNat (48 + own_dig md (own_nd md - 1)))) hd1 (hb hby d3_41) rfl ?_
    refine g_bipush (n := 44) X0 hx (48 : Int32) (hb hby d3_42) rfl rfl ?_
    refine g_icmp (n := 69) (n' := 47) X0 hx _ (own_cne _ _) (hb hby d3_44) (by decide) (by decide) rfl (fun _ => ?_) (fun hc => absurd (fun z => by have := (own_eq (n := 48) (by omega) (by omega)).mp z; have := own_lead md hm (by omega); exact absurd this.1 (hnz rfl)) hc)
    refine g_lconst (n := 70) X0 hx (0 : Int64) (hb hby d3_69) rfl rfl ?_
    refine g_lstore (n := 72) X0 hx (hb hby d3_70) rfl #[.val (.ref a1), .val (.int (Int32.ofNat o)), .val (.int (Int32.ofNat (o + 1 + own_nd md))), .val (.int (1 : Int32)), .val (.int (Int32.ofNat (o + 1))), .val (.long (0 : Int64)), .second, .unset, .unset] rfl ?_
    refine g_iload (n := 74) X0 hx (hb hby d3_72) rfl rfl ?_
    refine g_istore (n := 76) X0 hx (hb hby d3_74) rfl #[.val (.ref a1), .val (.int (Int32.ofNat o)), .val (.int (Int32.ofNat (o + 1 + own_nd md))), .val (.int (1 : Int32)), .val (.int (Int32.ofNat (o + 1))), .val (.long (0 : Int64)), .second, .val (.int (Int32.ofNat (o + 1))), .unset] rfl ?_
    have G := loop (own_nd md) 0 .unset (by omega) (Or.inl rfl)
    have z0 : own_neg (md / 10 ^ (own_nd md - 0)) = 0 := (own_neg_zero (own_quot_le _ _ hm)).mpr (own_quot_zero md hm)
    rw [z0] at G
    exact G
theorem own_m8 (x : Int32) : ∃ n : Nat, n ≤ 7 ∧ (x &&& (7 : Int32)) = Int32.ofNat n := by
  have e1 : (x &&& 7).toInt = x.toInt % 2 ^ 3 := Jvm.Kit.i32_mask x 7 (k := 3) (by decide) (by decide)
  refine ⟨(x &&& 7).toInt.toNat, by omega, ?_⟩
  apply Int32.toInt_inj.mp
  rw [Int32.toInt_ofNat_small (by omega)]
  omega
theorem own_sign (v : Int64) : ∃ sg md : Nat, sg ≤ 1 ∧ md ≤ 9223372036854775808 ∧ (¬ v < 0 → -v = own_neg md) ∧ (v < 0 → v = own_neg md) ∧ (¬ v < 0 → sg = 0) ∧ (v < 0 → sg = 1) ∧ (sg = 0 → ¬ v < 0) ∧ (sg = 1 → v < 0) ∧ (sg = 1 → ¬ md = 0) ∧ (¬ v < 0 → -(own_neg md) = v) ∧ (¬ v < 0 → ¬ own_neg md = (-9223372036854775808 : Int64)) := by
  have r := rng64 v
  have z : (0 : Int64).toInt = 0 := rfl
  by_cases h : v < 0
  · have h' := h
    rw [Int64.lt_iff_toInt_lt, z] at h'
    refine ⟨1, (-v.toInt).toNat, by omega, by omega, fun q => absurd h q, fun _ => ?_, fun q => absurd h q, fun _ => rfl, fun q => absurd q (by omega), fun _ => h, fun _ q => by omega, fun q => absurd h q, fun q => absurd h q⟩
    apply Int64.toInt_inj.mp; rw [own_neg_toInt (by omega)]; omega
  · have h' := h
    rw [Int64.lt_iff_toInt_lt, z] at h'
    have e : own_neg v.toInt.toNat = -v := by
      apply Int64.toInt_inj.mp; rw [own_neg_toInt (by omega)]
      have a := c_lneg v
      have b := rng64 (-v)
      omega
    refine ⟨0, v.toInt.toNat, by omega, by omega, fun _ => e.symm, fun q => absurd q h, fun _ => rfl, fun q => absurd q h, fun _ => h, fun q => absurd q (by omega), fun q => absurd q (by omega), fun _ => ?_, fun _ q => ?_⟩
    · rw [e]; simp
    · have := congrArg Int64.toInt q
      rw [own_neg_toInt (by omega), show (-9223372036854775808 : Int64).toInt = -9223372036854775808 from rfl] at this
      omega

theorem pn_0 : plainFor x = true := by first | (exact plainFor_of_name (by first | (simp [plainName, overriddenIn, x]; done) | decide +kernel)) | decide +kernel
set_option maxRecDepth 65536 in
set_option maxHeartbeats 40000000 in
theorem rm0 (l : Launch) (Z : State) (a0 : Array Value) (hw : ∀ d ∈ tables_1, d.before a0 Z = true) (p1 : Int64) (p2 p3 : Int32) (h0 : Heap) :
    OMet l Z x code maxLocals ret tables_1 room_1 #[.long p1, .int p2, .int p3] h0 (fun v h L => v = some (.int 1) ∧ Fr h0.size L) := by
  refine own_body (Ls := #[.val (.long p1), .second, .val (.int p2), .val (.int p3), .unset, .unset, .unset, .unset, .unset, .unset, .unset, .unset]) pn_0 (fun m => by first | (simp [entryFrame, mkF, argsToLocals, Value.category, maxLocals]; done) | rfl) ?_
  intro p e s m below meth c s₁ X0 hx hby hml hown hnm hret hlk hZ e0
  refine g_lloadN (n := 1) X0 hx (hb hby at_0) rfl rfl ?_
  refine g_iloadN (n := 2) X0 hx (hb hby at_1) rfl rfl ?_
  refine g_bipush (n := 4) X0 hx (63 : Int32) (hb hby at_2) rfl rfl ?_
  refine g_iand (n := 5) X0 hx (hb hby at_4) rfl ?_
  refine g_lshr (n := 6) X0 hx (hb hby at_5) rfl ?_
  obtain ⟨v, ev⟩ : ∃ z, z = (p1 >>> ((p2 &&& (63 : Int32)).toInt64 &&& 63)) := ⟨_, rfl⟩
  rw [← ev]
  refine g_lstore (n := 8) X0 hx (hb hby at_6) rfl #[.val (.long p1), .second, .val (.int p2), .val (.int p3), .val (.long v), .second, .unset, .unset, .unset, .unset, .unset, .unset] rfl ?_
  refine g_iloadN (n := 9) X0 hx (hb hby at_8) rfl rfl ?_
  refine g_bipush (n := 11) X0 hx (7 : Int32) (hb hby at_9) rfl rfl ?_
  refine g_iand (n := 12) X0 hx (hb hby at_11) rfl ?_
  obtain ⟨o, ho, eo⟩ := own_m8 p3
  rw [eo]
  refine g_istore (n := 14) X0 hx (hb hby at_12) rfl #[.val (.long p1), .second, .val (.int p2), .val (.int p3), .val (.long v), .second, .val (.int (Int32.ofNat o)), .unset, .unset, .unset, .unset, .unset] rfl ?_
  refine g_bipush (n := 16) X0 hx (32 : Int32) (hb hby at_14) rfl rfl ?_
  refine g_newarray (n := 18) X0 hx hZ .byte rfl (hw _ (List.mem_of_getElem? (i := 0) rfl)) e0 32 rfl 32 (by decide) (by decide) (by decide) (by decide) (hb hby at_16) rfl ?_
  intro T11 h11 a11 X11 e11 z11 E11 A11
  refine g_astore (n := 20) X11 hx (hb hby at_18) rfl rfl #[.val (.long p1), .second, .val (.int p2), .val (.int p3), .val (.long v), .second, .val (.int (Int32.ofNat o)), .val (.ref a11), .unset, .unset, .unset, .unset] rfl ?_
  refine g_lload (n := 22) X11 hx (hb hby at_20) rfl rfl ?_
  refine g_aload (n := 24) X11 hx (hb hby at_22) rfl rfl rfl ?_
  refine g_iload (n := 26) X11 hx (hb hby at_24) rfl rfl ?_
  obtain ⟨sg, md, hsg, hm, hpos, hneg, hs0, hs1, hs0', hs1', hnz, hpos', hpos2⟩ := own_sign v
  have hsp := own_nd_spec md hm
  have ga : h0.size ≤ a11 := by omega
  rcases (show sg = 0 ∨ sg = 1 by omega) with rfl | rfl
  · have hv := hs0' rfl
    refine g_callS (n := 29) (st := []) X11 hx hZ hown e11 (hw _ (List.mem_of_getElem? (i := 1) rfl)) (hw _ (List.mem_of_getElem? (i := 2) rfl)) (hw _ (List.mem_of_getElem? (i := 3) rfl)) (hw _ (List.mem_of_getElem? (i := 4) rfl)) (by decide) [.long v, .ref a11, .int (Int32.ofNat o)] (rm1 l Z a0 hw v a11 o 0 md h0.size (fun _ => .int 0) h11 (A11.congr (fun _ _ => rfl)) ga ho hsg hm hpos hneg hs0 hs1) pd_0 rfl (hb hby at_26) rfl (by rw [hml]; rfl) (by decide) 0 (Nat.le_of_eq rfl) (by decide) (by decide) (by decide) ?_
    intro T12 h12 v12 L12 X12 e12 Q12
    obtain ⟨rfl, N12, K12, VT⟩ := Q12
    refine g_istore (n := 31) X12 hx (hb hby at_29) rfl #[.val (.long p1), .second, .val (.int p2), .val (.int p3), .val (.long v), .second, .val (.int (Int32.ofNat o)), .val (.ref a11), .val (.int (Int32.ofNat (o + 0 + own_nd md))), .unset, .unset, .unset] rfl ?_
    refine g_lload (n := 33) X12 hx (hb hby at_31) rfl rfl ?_
    refine g_lconst (n := 34) X12 hx (0 : Int64) (hb hby at_33) rfl rfl ?_
    refine g_lcmp (n := 35) X12 hx (hb hby at_34) rfl ?_
    refine g_if (n := 43) (n' := 38) X12 hx _ (own_zge _) (hb hby at_35) (by decide) (by decide) rfl (fun _ => ?_) (fun hc => absurd ((own_cmp_ge _ _).mpr hv) hc)
    refine g_lload (n := 45) X12 hx (hb hby at_43) rfl rfl ?_
    refine g_lneg (n := 46) X12 hx (hb hby at_45) rfl ?_
    rw [hpos hv]
    have ed : ((48 : Int64) - ((own_neg md) - (own_neg md) / (10 : Int64) * (10 : Int64))).toInt32.toInt8.toInt32 = Int32.ofNat (48 + md % 10) := by exact own_digit hm
    refine g_lstore (n := 48) X12 hx (hb hby at_46) rfl #[.val (.long p1), .second, .val (.int p2), .val (.int p3), .val (.long v), .second, .val (.int (Int32.ofNat o)), .val (.ref a11), .val (.int (Int32.ofNat (o + 0 + own_nd md))), .val (.long (own_neg md)), .second, .unset] rfl ?_
    refine g_lload (n := 50) X12 hx (hb hby at_48) rfl rfl ?_
    refine g_lconst (n := 51) X12 hx (0 : Int64) (hb hby at_50) rfl rfl ?_
    refine g_lcmp (n := 52) X12 hx (hb hby at_51) rfl ?_
    refine g_if (n := 59) (n' := 55) X12 hx _ (own_zge _) (hb hby at_52) (by decide) (by decide) rfl (fun _ => ?_) (fun hc => absurd ((own_cmp_ge _ _).mpr hv) hc)
    refine g_iconst (n := 60) X12 hx (0 : Int32) (hb hby at_59) rfl rfl ?_
    refine g_lload (n := 62) X12 hx (hb hby at_60) rfl rfl ?_
    refine g_callSP (n := 65) (st := [(.int (0 : Int32))]) X12 hx hZ hown e12 (hw _ (List.mem_of_getElem? (i := 7) rfl)) (hw _ (List.mem_of_getElem? (i := 8) rfl)) (hw _ (List.mem_of_getElem? (i := 9) rfl)) (hw _ (List.mem_of_getElem? (i := 10) rfl)) (by decide) [.long (own_neg md)] (rm2 l Z a0 hw (own_neg md) md h12 hm rfl) pd_1 rfl (hb hby at_62) rfl (by rw [hml]; rfl) (by decide) 1 (Nat.le_of_eq rfl) (by decide) (by decide) (by decide) ?_
    intro T13 X13 e13
    refine g_iadd (n := 66) X13 hx (hb hby at_65) rfl ?_
    rw [show (0 : Int32) + Int32.ofNat (own_nd md) = Int32.ofNat (0 + own_nd md) from own_add 0 _]
    refine g_istore (n := 68) X13 hx (hb hby at_66) rfl #[.val (.long p1), .second, .val (.int p2), .val (.int p3), .val (.long v), .second, .val (.int (Int32.ofNat o)), .val (.ref a11), .val (.int (Int32.ofNat (o + 0 + own_nd md))), .val (.long (own_neg md)), .second, .val (.int (Int32.ofNat (0 + own_nd md)))] rfl ?_
    refine g_iload (n := 70) X13 hx (hb hby at_68) rfl rfl ?_
    refine g_iload (n := 72) X13 hx (hb hby at_70) rfl rfl ?_
    refine g_iload (n := 74) X13 hx (hb hby at_72) rfl rfl ?_
    refine g_iadd (n := 75) X13 hx (hb hby at_74) rfl ?_
    rw [own_add o (0 + own_nd md)]
    refine g_icmp (n := 80) (n' := 78) X13 hx _ (own_ceq _ _) (hb hby at_75) (by decide) (by decide) rfl (fun _ => ?_) (fun hc => absurd (congrArg Int32.ofNat (by omega)) hc)
    refine g_iload (n := 82) X13 hx (hb hby at_80) rfl rfl ?_
    suffices hJ : Go p e below (Fe s room_1.cells room_1.slots) (fun v h L => v = some (.int 1) ∧ Fr h0.size L) T13 (mkF m 97 #[.val (.long p1), .second, .val (.int p2), .val (.int p3), .val (.long v), .second, .val (.int (Int32.ofNat o)), .val (.ref a11), .val (.int (Int32.ofNat (o + 0 + own_nd md))), .val (.long (own_neg md)), .second, .val (.int (Int32.ofNat (0 + own_nd md)))] []) by
      refine g_if (n := 97) (n' := 85) X13 hx _ (own_zle _) (hb hby at_82) (by decide) (by decide) rfl (fun hc => ?_) (fun hc => ?_)
      · exact hJ
      · have h1o : 1 ≤ o := Nat.not_lt.mp (fun q => hc ((own_le (n := o) (i := 0) (by omega) (by omega)).mpr (by omega)))
        refine g_aload (n := 87) X13 hx (hb hby at_85) rfl rfl rfl ?_
        refine g_iload (n := 89) X13 hx (hb hby at_87) rfl rfl ?_
        refine g_iconst (n := 90) X13 hx (1 : Int32) (hb hby at_89) rfl rfl ?_
        refine g_isub (n := 91) X13 hx (hb hby at_90) rfl ?_
        rw [show Int32.ofNat o - (1 : Int32) = Int32.ofNat (o - 1) from own_sub _ 1 h1o]
        refine g_baload (n := 92) X13 hx hZ e13 VT (o - 1) rfl (by omega) (.int (0 : Int32)) (by rw [own_put_out (by omega), if_neg (by omega)]) (hb hby at_91) rfl ?_
        refine g_if (n := 97) (n' := 95) X13 hx _ (own_zeq _) (hb hby at_92) (by decide) (by decide) rfl (fun _ => ?_) (fun hc => absurd rfl hc)
        exact hJ
    refine g_aload (n := 99) X13 hx (hb hby at_97) rfl rfl rfl ?_
    refine g_iload (n := 101) X13 hx (hb hby at_99) rfl rfl ?_
    refine g_baload (n := 102) X13 hx hZ e13 VT (o + 0 + own_nd md) rfl (by omega) (.int (0 : Int32)) (by rw [own_put_out (by omega), if_neg (by omega)]) (hb hby at_101) rfl ?_
    refine g_if (n := 107) (n' := 105) X13 hx _ (own_zeq _) (hb hby at_102) (by decide) (by decide) rfl (fun _ => ?_) (fun hc => absurd rfl hc)
    refine g_aload (n := 109) X13 hx (hb hby at_107) rfl rfl rfl ?_
    refine g_iload (n := 111) X13 hx (hb hby at_109) rfl rfl ?_
    have hdl := own_dig_lt md (own_nd md - 1 - 0)
    refine g_baload (n := 112) X13 hx hZ e13 VT o rfl (by omega) (.int (Int32.ofNat (48 + own_dig md (own_nd md - 1 - 0)))) (own_put_in (first := o + 0) (r := 0) (by omega)) (hb hby at_111) rfl ?_
    refine g_bipush (n := 114) X13 hx (45 : Int32) (hb hby at_112) rfl rfl ?_
    refine g_icmp (n := 121) (n' := 117) X13 hx _ (own_cne _ _) (hb hby at_114) (by decide) (by decide) rfl (fun _ => ?_) (fun hc => absurd (fun z => absurd ((own_eq (n := 45) (by omega) (by omega)).mp z) (by omega)) hc)
    refine g_iconst (n := 122) X13 hx (0 : Int32) (hb hby at_121) rfl rfl ?_
    refine g_lload (n := 124) X13 hx (hb hby at_122) rfl rfl ?_
    refine g_lconst (n := 125) X13 hx (0 : Int64) (hb hby at_124) rfl rfl ?_
    refine g_lcmp (n := 126) X13 hx (hb hby at_125) rfl ?_
    refine g_if (n := 133) (n' := 129) X13 hx _ (own_zge _) (hb hby at_126) (by decide) (by decide) rfl (fun _ => ?_) (fun hc => absurd ((own_cmp_ge _ _).mpr hv) hc)
    refine g_iconst (n := 134) X13 hx (0 : Int32) (hb hby at_133) rfl rfl ?_
    refine g_icmp (n := 139) (n' := 137) X13 hx _ (own_ceq _ _) (hb hby at_134) (by decide) (by decide) rfl (fun _ => ?_) (fun hc => absurd rfl hc)
    refine g_aload (n := 141) X13 hx (hb hby at_139) rfl rfl rfl ?_
    refine g_iload (n := 143) X13 hx (hb hby at_141) rfl rfl ?_
    refine g_iconst (n := 144) X13 hx (1 : Int32) (hb hby at_143) rfl rfl ?_
    refine g_isub (n := 145) X13 hx (hb hby at_144) rfl ?_
    rw [show Int32.ofNat (o + 0 + own_nd md) - (1 : Int32) = Int32.ofNat ((o + 0 + own_nd md) - 1) from own_sub _ 1 (by omega)]
    refine g_baload (n := 146) X13 hx hZ e13 VT ((o + 0 + own_nd md) - 1) rfl (by omega) (.int (Int32.ofNat (48 + md % 10))) (by rw [show (o + 0 + own_nd md) - 1 = o + 0 + (own_nd md - 1) by omega, own_put_in (by omega)]; simp only [own_dig, show own_nd md - 1 - (own_nd md - 1) = 0 by omega, Nat.pow_zero, Nat.div_one]) (hb hby at_145) rfl ?_
    refine g_ldc2 (n := 149) X13 hx hZ hown (hw _ (List.mem_of_getElem? (i := 12) rfl)) (hb hby at_146) rfl ?_
    refine g_lload (n := 151) X13 hx (hb hby at_149) rfl rfl ?_
    refine g_ldc2 (n := 154) X13 hx hZ hown (hw _ (List.mem_of_getElem? (i := 13) rfl)) (hb hby at_151) rfl ?_
    refine g_lrem (n := 155) X13 hx (hb hby at_154) rfl (by decide) ?_
    refine g_lsub (n := 156) X13 hx (hb hby at_155) rfl ?_
    refine g_l2i (n := 157) X13 hx (hb hby at_156) rfl ?_
    refine g_i2b (n := 158) X13 hx (hb hby at_157) rfl ?_
    rw [ed]
    refine g_icmp (n := 163) (n' := 161) X13 hx _ (own_ceq _ _) (hb hby at_158) (by decide) (by decide) rfl (fun _ => ?_) (fun hc => absurd rfl hc)
    refine g_aload (n := 165) X13 hx (hb hby at_163) rfl rfl rfl ?_
    refine g_iload (n := 167) X13 hx (hb hby at_165) rfl rfl ?_
    refine g_iload (n := 169) X13 hx (hb hby at_167) rfl rfl ?_
    refine g_callSP (n := 172) (st := []) X13 hx hZ hown e13 (hw _ (List.mem_of_getElem? (i := 14) rfl)) (hw _ (List.mem_of_getElem? (i := 15) rfl)) (hw _ (List.mem_of_getElem? (i := 3) rfl)) (hw _ (List.mem_of_getElem? (i := 16) rfl)) (by decide) [.ref a11, .int (Int32.ofNat o), .int (Int32.ofNat (o + 0 + own_nd md))] (rm3 l Z a0 hw v a11 o 0 md (own_put (fun x => if 0 = 1 ∧ x = o then .int 45 else .int 0) (o + 0) (own_nd md) (fun r => own_dig md (own_nd md - 1 - r))) h12 VT ho hsg hm (fun r hr => own_put_in hr) (fun q => by rw [own_put_out (by omega), if_pos ⟨q, rfl⟩]) hnz hs0' hs1' hpos' hpos2 hneg) pd_2 rfl (hb hby at_169) rfl (by rw [hml]; rfl) (by decide) 0 (Nat.le_of_eq rfl) (by decide) (by decide) (by decide) ?_
    intro T14 X14 e14
    refine g_lload (n := 174) X14 hx (hb hby at_172) rfl rfl ?_
    refine g_lcmp (n := 175) X14 hx (hb hby at_174) rfl ?_
    refine g_if (n := 182) (n' := 178) X14 hx _ (own_zne _) (hb hby at_175) (by decide) (by decide) rfl (fun hc => absurd hc (fun q => q ((own_cmp_eq _ _).mpr rfl))) (fun _ => ?_)
    refine g_iconst (n := 179) X14 hx (1 : Int32) (hb hby at_178) rfl rfl ?_
    refine g_goto (n := 183) X14 hx (hb hby at_179) (by decide) (by decide) ?_
    refine g_retZ X14 hx (by decide) hret hlk (hb hby at_183) (Fe.of (by decide) (by decide)) ?_
    try rw [e14]
    exact ⟨rfl, Fr.app (Fr.nil _) N12⟩
  · have hv := hs1' rfl
    refine g_callS (n := 29) (st := []) X11 hx hZ hown e11 (hw _ (List.mem_of_getElem? (i := 1) rfl)) (hw _ (List.mem_of_getElem? (i := 2) rfl)) (hw _ (List.mem_of_getElem? (i := 3) rfl)) (hw _ (List.mem_of_getElem? (i := 4) rfl)) (by decide) [.long v, .ref a11, .int (Int32.ofNat o)] (rm1 l Z a0 hw v a11 o 1 md h0.size (fun _ => .int 0) h11 (A11.congr (fun _ _ => rfl)) ga ho hsg hm hpos hneg hs0 hs1) pd_0 rfl (hb hby at_26) rfl (by rw [hml]; rfl) (by decide) 0 (Nat.le_of_eq rfl) (by decide) (by decide) (by decide) ?_
    intro T15 h15 v15 L15 X15 e15 Q15
    obtain ⟨rfl, N15, K15, VT⟩ := Q15
    refine g_istore (n := 31) X15 hx (hb hby at_29) rfl #[.val (.long p1), .second, .val (.int p2), .val (.int p3), .val (.long v), .second, .val (.int (Int32.ofNat o)), .val (.ref a11), .val (.int (Int32.ofNat (o + 1 + own_nd md))), .unset, .unset, .unset] rfl ?_
    refine g_lload (n := 33) X15 hx (hb hby at_31) rfl rfl ?_
    refine g_lconst (n := 34) X15 hx (0 : Int64) (hb hby at_33) rfl rfl ?_
    refine g_lcmp (n := 35) X15 hx (hb hby at_34) rfl ?_
    refine g_if (n := 43) (n' := 38) X15 hx _ (own_zge _) (hb hby at_35) (by decide) (by decide) rfl (fun hc => absurd hc (fun z => (own_cmp_ge _ _).mp z hv)) (fun _ => ?_)
    refine g_lload (n := 40) X15 hx (hb hby at_38) rfl rfl ?_
    refine g_goto (n := 46) X15 hx (hb hby at_40) (by decide) (by decide) ?_
    have ed : ((48 : Int64) - (v - v / (10 : Int64) * (10 : Int64))).toInt32.toInt8.toInt32 = Int32.ofNat (48 + md % 10) := by rw [hneg hv]; exact own_digit hm
    refine g_lstore (n := 48) X15 hx (hb hby at_46) rfl #[.val (.long p1), .second, .val (.int p2), .val (.int p3), .val (.long v), .second, .val (.int (Int32.ofNat o)), .val (.ref a11), .val (.int (Int32.ofNat (o + 1 + own_nd md))), .val (.long v), .second, .unset] rfl ?_
    refine g_lload (n := 50) X15 hx (hb hby at_48) rfl rfl ?_
    refine g_lconst (n := 51) X15 hx (0 : Int64) (hb hby at_50) rfl rfl ?_
    refine g_lcmp (n := 52) X15 hx (hb hby at_51) rfl ?_
    refine g_if (n := 59) (n' := 55) X15 hx _ (own_zge _) (hb hby at_52) (by decide) (by decide) rfl (fun hc => absurd hc (fun z => (own_cmp_ge _ _).mp z hv)) (fun _ => ?_)
    refine g_iconst (n := 56) X15 hx (1 : Int32) (hb hby at_55) rfl rfl ?_
    refine g_goto (n := 60) X15 hx (hb hby at_56) (by decide) (by decide) ?_
    refine g_lload (n := 62) X15 hx (hb hby at_60) rfl rfl ?_
    refine g_callSP (n := 65) (st := [(.int (1 : Int32))]) X15 hx hZ hown e15 (hw _ (List.mem_of_getElem? (i := 7) rfl)) (hw _ (List.mem_of_getElem? (i := 8) rfl)) (hw _ (List.mem_of_getElem? (i := 9) rfl)) (hw _ (List.mem_of_getElem? (i := 10) rfl)) (by decide) [.long v] (rm2 l Z a0 hw v md h15 hm (hneg hv)) pd_1 rfl (hb hby at_62) rfl (by rw [hml]; rfl) (by decide) 1 (Nat.le_of_eq rfl) (by decide) (by decide) (by decide) ?_
    intro T16 X16 e16
    refine g_iadd (n := 66) X16 hx (hb hby at_65) rfl ?_
    rw [show (1 : Int32) + Int32.ofNat (own_nd md) = Int32.ofNat (1 + own_nd md) from own_add 1 _]
    refine g_istore (n := 68) X16 hx (hb hby at_66) rfl #[.val (.long p1), .second, .val (.int p2), .val (.int p3), .val (.long v), .second, .val (.int (Int32.ofNat o)), .val (.ref a11), .val (.int (Int32.ofNat (o + 1 + own_nd md))), .val (.long v), .second, .val (.int (Int32.ofNat (1 + own_nd md)))] rfl ?_
    refine g_iload (n := 70) X16 hx (hb hby at_68) rfl rfl ?_
    refine g_iload (n := 72) X16 hx (hb hby at_70) rfl rfl ?_
    refine g_iload (n := 74) X16 hx (hb hby at_72) rfl rfl ?_
    refine g_iadd (n := 75) X16 hx (hb hby at_74) rfl ?_
    rw [own_add o (1 + own_nd md)]
    refine g_icmp (n := 80) (n' := 78) X16 hx _ (own_ceq _ _) (hb hby at_75) (by decide) (by decide) rfl (fun _ => ?_) (fun hc => absurd (congrArg Int32.ofNat (by omega)) hc)
    refine g_iload (n := 82) X16 hx (hb hby at_80) rfl rfl ?_
    suffices hJ : Go p e below (Fe s room_1.cells room_1.slots) (fun v h L => v = some (.int 1) ∧ Fr h0.size L) T16 (mkF m 97 #[.val (.long p1), .second, .val (.int p2), .val (.int p3), .val (.long v), .second, .val (.int (Int32.ofNat o)), .val (.ref a11), .val (.int (Int32.ofNat (o + 1 + own_nd md))), .val (.long v), .second, .val (.int (Int32.ofNat (1 + own_nd md)))] []) by
      refine g_if (n := 97) (n' := 85) X16 hx _ (own_zle _) (hb hby at_82) (by decide) (by decide) rfl (fun hc => ?_) (fun hc => ?_)
      · exact hJ
      · have h1o : 1 ≤ o := Nat.not_lt.mp (fun q => hc ((own_le (n := o) (i := 0) (by omega) (by omega)).mpr (by omega)))
        refine g_aload (n := 87) X16 hx (hb hby at_85) rfl rfl rfl ?_
        refine g_iload (n := 89) X16 hx (hb hby at_87) rfl rfl ?_
        refine g_iconst (n := 90) X16 hx (1 : Int32) (hb hby at_89) rfl rfl ?_
        refine g_isub (n := 91) X16 hx (hb hby at_90) rfl ?_
        rw [show Int32.ofNat o - (1 : Int32) = Int32.ofNat (o - 1) from own_sub _ 1 h1o]
        refine g_baload (n := 92) X16 hx hZ e16 VT (o - 1) rfl (by omega) (.int (0 : Int32)) (by rw [own_put_out (by omega), if_neg (by omega)]) (hb hby at_91) rfl ?_
        refine g_if (n := 97) (n' := 95) X16 hx _ (own_zeq _) (hb hby at_92) (by decide) (by decide) rfl (fun _ => ?_) (fun hc => absurd rfl hc)
        exact hJ
    refine g_aload (n := 99) X16 hx (hb hby at_97) rfl rfl rfl ?_
    refine g_iload (n := 101) X16 hx (hb hby at_99) rfl rfl ?_
    refine g_baload (n := 102) X16 hx hZ e16 VT (o + 1 + own_nd md) rfl (by omega) (.int (0 : Int32)) (by rw [own_put_out (by omega), if_neg (by omega)]) (hb hby at_101) rfl ?_
    refine g_if (n := 107) (n' := 105) X16 hx _ (own_zeq _) (hb hby at_102) (by decide) (by decide) rfl (fun _ => ?_) (fun hc => absurd rfl hc)
    refine g_aload (n := 109) X16 hx (hb hby at_107) rfl rfl rfl ?_
    refine g_iload (n := 111) X16 hx (hb hby at_109) rfl rfl ?_
    refine g_baload (n := 112) X16 hx hZ e16 VT o rfl (by omega) (.int (45 : Int32)) (by rw [own_put_out (by omega), if_pos ⟨rfl, rfl⟩]) (hb hby at_111) rfl ?_
    refine g_bipush (n := 114) X16 hx (45 : Int32) (hb hby at_112) rfl rfl ?_
    refine g_icmp (n := 121) (n' := 117) X16 hx _ (own_cne _ _) (hb hby at_114) (by decide) (by decide) rfl (fun hc => absurd hc (fun q => q rfl)) (fun _ => ?_)
    refine g_iconst (n := 118) X16 hx (1 : Int32) (hb hby at_117) rfl rfl ?_
    refine g_goto (n := 122) X16 hx (hb hby at_118) (by decide) (by decide) ?_
    refine g_lload (n := 124) X16 hx (hb hby at_122) rfl rfl ?_
    refine g_lconst (n := 125) X16 hx (0 : Int64) (hb hby at_124) rfl rfl ?_
    refine g_lcmp (n := 126) X16 hx (hb hby at_125) rfl ?_
    refine g_if (n := 133) (n' := 129) X16 hx _ (own_zge _) (hb hby at_126) (by decide) (by decide) rfl (fun hc => absurd hc (fun z => (own_cmp_ge _ _).mp z hv)) (fun _ => ?_)
    refine g_iconst (n := 130) X16 hx (1 : Int32) (hb hby at_129) rfl rfl ?_
    refine g_goto (n := 134) X16 hx (hb hby at_130) (by decide) (by decide) ?_
    refine g_icmp (n := 139) (n' := 137) X16 hx _ (own_ceq _ _) (hb hby at_134) (by decide) (by decide) rfl (fun _ => ?_) (fun hc => absurd rfl hc)
    refine g_aload (n := 141) X16 hx (hb hby at_139) rfl rfl rfl ?_
    refine g_iload (n := 143) X16 hx (hb hby at_141) rfl rfl ?_
    refine g_iconst (n := 144) X16 hx (1 : Int32) (hb hby at_143) rfl rfl ?_
    refine g_isub (n := 145) X16 hx (hb hby at_144) rfl ?_
    rw [show Int32.ofNat (o + 1 + own_nd md) - (1 : Int32) = Int32.ofNat ((o + 1 + own_nd md) - 1) from own_sub _ 1 (by omega)]
    refine g_baload (n := 146) X16 hx hZ e16 VT ((o + 1 + own_nd md) - 1) rfl (by omega) (.int (Int32.ofNat (48 + md % 10))) (by rw [show (o + 1 + own_nd md) - 1 = o + 1 + (own_nd md - 1) by omega, own_put_in (by omega)]; simp only [own_dig, show own_nd md - 1 - (own_nd md - 1) = 0 by omega, Nat.pow_zero, Nat.div_one]) (hb hby at_145) rfl ?_
    refine g_ldc2 (n := 149) X16 hx hZ hown (hw _ (List.mem_of_getElem? (i := 12) rfl)) (hb hby at_146) rfl ?_
    refine g_lload (n := 151) X16 hx (hb hby at_149) rfl rfl ?_
    refine g_ldc2 (n := 154) X16 hx hZ hown (hw _ (List.mem_of_getElem? (i := 13) rfl)) (hb hby at_151) rfl ?_
    refine g_lrem (n := 155) X16 hx (hb hby at_154) rfl (by decide) ?_
    refine g_lsub (n := 156) X16 hx (hb hby at_155) rfl ?_
    refine g_l2i (n := 157) X16 hx (hb hby at_156) rfl ?_
    refine g_i2b (n := 158) X16 hx (hb hby at_157) rfl ?_
    rw [ed]
    refine g_icmp (n := 163) (n' := 161) X16 hx _ (own_ceq _ _) (hb hby at_158) (by decide) (by decide) rfl (fun _ => ?_) (fun hc => absurd rfl hc)
    refine g_aload (n := 165) X16 hx (hb hby at_163) rfl rfl rfl ?_
    refine g_iload (n := 167) X16 hx (hb hby at_165) rfl rfl ?_
    refine g_iload (n := 169) X16 hx (hb hby at_167) rfl rfl ?_
    refine g_callSP (n := 172) (st := []) X16 hx hZ hown e16 (hw _ (List.mem_of_getElem? (i := 14) rfl)) (hw _ (List.mem_of_getElem? (i := 15) rfl)) (hw _ (List.mem_of_getElem? (i := 3) rfl)) (hw _ (List.mem_of_getElem? (i := 16) rfl)) (by decide) [.ref a11, .int (Int32.ofNat o), .int (Int32.ofNat (o + 1 + own_nd md))] (rm3 l Z a0 hw v a11 o 1 md (own_put (fun x => if 1 = 1 ∧ x = o then .int 45 else .int 0) (o + 1) (own_nd md) (fun r => own_dig md (own_nd md - 1 - r))) h15 VT ho hsg hm (fun r hr => own_put_in hr) (fun q => by rw [own_put_out (by omega), if_pos ⟨q, rfl⟩]) hnz hs0' hs1' hpos' hpos2 hneg) pd_2 rfl (hb hby at_169) rfl (by rw [hml]; rfl) (by decide) 0 (Nat.le_of_eq rfl) (by decide) (by decide) (by decide) ?_
    intro T17 X17 e17
    refine g_lload (n := 174) X17 hx (hb hby at_172) rfl rfl ?_
    refine g_lcmp (n := 175) X17 hx (hb hby at_174) rfl ?_
    refine g_if (n := 182) (n' := 178) X17 hx _ (own_zne _) (hb hby at_175) (by decide) (by decide) rfl (fun hc => absurd hc (fun q => q ((own_cmp_eq _ _).mpr rfl))) (fun _ => ?_)
    refine g_iconst (n := 179) X17 hx (1 : Int32) (hb hby at_178) rfl rfl ?_
    refine g_goto (n := 183) X17 hx (hb hby at_179) (by decide) (by decide) ?_
    refine g_retZ X17 hx (by decide) hret hlk (hb hby at_183) (Fe.of (by decide) (by decide)) ?_
    try rw [e17]
    exact ⟨rfl, Fr.app (Fr.nil _) N15⟩
set_option maxRecDepth 65536 in
set_option maxHeartbeats 40000000 in
theorem comes_1 {Post : Tables → Env → Array Value → State → Outcome → State → Prop} (hpost : ∀ tb e args s v u, (limb_1_1.after args s (.returned v) u = true ∧ limb_1_2.after args s (.returned v) u = true ∧ True) → FrameEnd s (.returned v) u (Jvm.fieldLocs frame_1_writes args s ++ Jvm.arrayLocs frame_1_arrays args s ++ Jvm.staticLocs frame_1_statics s) 16 128 → Post tb e args s (.returned v) u) :
    ArmFor flags0 classFile x code maxLocals ret World_1 tables_1 room_1 Calls_1 rest_1 Pre_1 Post := by
  intro l hfl _ _ p e ha hc hk s m args below hf hA hF happ hP
  obtain ⟨hcalls, hrest, hpre⟩ := hP
  obtain ⟨-, -, -, hnamed, -, -, -, hat⟩ := (Spec.applies_iff hf).mp happ
  obtain ⟨hg, hn⟩ := and_e (Cond.before_iff.mp (show (Jvm.Cond.and given_1 narrow_1).before args s = true from hpre))
  obtain ⟨h1, hg1⟩ := and_e hg
  obtain ⟨k0, hg2⟩ := and_e hg1
  obtain ⟨k1, hg3⟩ := and_e hg2
  obtain ⟨w0, w1, w2, rfl⟩ : ∃ w0 w1 w2 : Value, args = #[w0, w1, w2] := by
    have hs : args.size = 3 := by simpa [Cond.value, given_1] using h1
    obtain ⟨L⟩ := args
    match L, hs with
    | [w0, w1, w2], _ => exact ⟨w0, w1, w2, rfl⟩
  have hw := fun d (hd : d ∈ tables_1) => atoms_spec (ws := Jvm.Cond.code x code maxLocals ret :: tables_1) hat d (List.mem_cons_of_mem _ hd)
  have hfit : Fit s := fun {y c} hc i hi => by
    obtain ⟨ha, rfl⟩ := Array.getElem?_eq_some_iff.mp hc
    have q := List.all_eq_true.mp ((Array.all_eq_true_iff_forall_mem.mp hF) _ (Array.getElem_mem ha)) i (List.mem_range.mpr hi)
    simpa [Array.getElem?_eq_getElem hi] using q
  obtain ⟨i0, e0⟩ := isL_v k0
  obtain rfl : w0 = (.long i0) := Option.some.inj e0
  obtain ⟨i1, e1⟩ := is_v k1
  obtain rfl : w1 = (.int i1) := Option.some.inj e1
  obtain ⟨i2, e2⟩ := is_v hg3
  obtain rfl : w2 = (.int i2) := Option.some.inj e2
  obtain ⟨n, o, h1, h2, h3, _, L, rfl, ⟨rfl, N⟩, hq⟩ := rm0 l s _ hw i0 i1 i2 s.heap  p e ha hc hk s m _ below hf ((Spec.applies_iff_loose hf).mp happ).1 ⟨rfl, State.Warmed39.refl s, rfl⟩ trivial
  refine ⟨n, _, h1, h2, h3, hpost _ _ _ _ _ _ ⟨Cond.after_iff.mpr rfl, Cond.after_iff.mpr (eq_i res_at (Term.int_eval (1)) rfl), trivial⟩ ⟨hq.1, hq.2.1, (hq.2.2.sift fun y hy => Or.inr (N y hy)).mono (by decide) (by decide)⟩⟩
theorem main_1_1 : Claimed_1_1 := comes_1 fun _ _ _ _ _ _ h hF => ⟨h.1, hF⟩
theorem main_1_2 : Claimed_1_2 := comes_1 fun _ _ _ _ _ _ h hF => ⟨h.2.1, hF⟩


end Jvm.Pilot.@@N@@
namespace Jvm.Pilot.@@N@@
open Jvm Jvm.ClassFile Sem Op Lib Jvm.Free Jvm.Stand Jvm.Pilot.@@N@@.Jvm.D
/-! MADE BY PROGRAM (witnessworld.py) out of the Statement's table words and the real class files: 9 classes; the members and pool entries that the words name. The judged class is class 1, her method 2. -/
namespace start1
open Jvm.ClassFile
def u (s : String) : CpInfo := .utf8 (stringToUtf16 s)
/-- a pool by its gaps: so many unusable entries, then the entry; so many at the end -/
def gap : Nat → List CpInfo → List CpInfo
  | 0, r => r
  | n + 1, r => .unusable :: gap n r
def poolList (es : List (Nat × CpInfo)) (last : Nat) : List CpInfo := es.foldr (fun e r => gap e.1 (e.2 :: r)) (gap last [])
def pool (es : List (Nat × CpInfo)) (last : Nat) : Array CpInfo := ⟨poolList es last⟩
def fileOf (pool : Array CpInfo) (this : Nat) (attrs : Array Attribute := #[]) (ms : Array MethodInfo := #[]) (fl : Nat := 33) (sup : Nat := 0) (ifs : Array Nat := #[]) (fds : Array FieldInfo := #[]) : ClassFile where
  minorVersion := 0
  majorVersion := 65
  constantPool := pool
  accessFlags := fl
  thisClass := this
  superClass := sup
  interfaces := ifs
  fields := fds
  methods := ms
  attributes := attrs
def plain (name : String) (sup : Option ClassId) : Class where
  name := name
  kind := .ordinary
  loader := none
  accessFlags := 33
  super := sup
  interfaces := #[]
  cf := none
  fields := #[]
  methods := #[]
  instanceTypes := #[]
  staticTypes := #[]
  resolved := #[]
  callSites := []
  init := .initialized
  statics := none
  mirror := none

def pool0 : Array CpInfo := pool [(5, u "<init>"), (0, u "()V"), (1, .class_ 10), (1, u "java/lang/Object")] 113

def k0m0 : Method := { name := "<init>", desc := "()V", sig := { parameters := [], returnType := none }, accessFlags := 1, code := none }
/-- java/lang/Object -/
def k0 : Class := { plain "java/lang/Object" none with
  accessFlags := 33
  interfaces := #[]
  cf := some (fileOf pool0 8 #[] #[{ accessFlags := 1, nameIndex := 5, descriptorIndex := 6, attributes := #[] }] 33 0 #[] #[])
  fields := #[]
  methods := #[k0m0]
  instanceTypes := #[]
  staticTypes := #[]
  resolved := Array.replicate 124 none
  statics := none }

def pool1 : Array CpInfo := pool [(2, .class_ 4), (1, u "java/lang/Object"), (0, u "<init>"), (0, u "()V"), (0, .long 18446744073709551606), (1, .long 18446744073709551516), (1, .long 18446744073709550616), (1, .long 18446744073709541616), (1, .long 18446744073709451616), (1, .long 18446744073708551616), (1, .long 18446744073699551616), (1, .long 18446744073609551616), (1, .long 18446744072709551616), (1, .long 18446744063709551616), (1, .long 18446743973709551616), (1, .long 18446743073709551616), (1, .long 18446734073709551616), (1, .long 18446644073709551616), (1, .long 18445744073709551616), (1, .long 18436744073709551616), (1, .long 18346744073709551616), (1, .long 17446744073709551616), (1, .methodref 44 45), (0, .class_ 46), (0, .nameAndType 47 48), (0, u "com/example/tidemark/tidemark/Decimal"), (0, u "write"), (0, u "(J[BI)I"), (0, .methodref 50 51), (0, .class_ 52), (0, .nameAndType 53 54), (0, u "com/example/tidemark/tidemark/DecimalWritePinLaw"), (0, u "digits"), (0, u "(J)I"), (0, .long 48), (1, .long 10), (1, .methodref 44 60), (0, .nameAndType 61 62), (0, u "parse"), (0, u "([BII)J"), (3, u "law"), (0, u "(JII)Z")] 4

def k1m0 : Method := { name := "<init>", desc := "()V", sig := { parameters := [], returnType := none }, accessFlags := 2, code := none }
def k1c1 : Code := { maxStack := 4, maxLocals := 2, code := method_2_code, exceptionTable := #[], attributes := #[] }
def k1m1 : Method := { name := "digits", desc := "(J)I", sig := { parameters := [.long], returnType := some .int }, accessFlags := 10, code := some k1c1 }
def k1c2 : Code := { maxStack := 7, maxLocals := 12, code := code, exceptionTable := #[], attributes := #[] }
def k1m2 : Method := { name := "law", desc := "(JII)Z", sig := { parameters := [.long, .int, .int], returnType := some .boolean }, accessFlags := 9, code := some k1c2 }
/-- com/example/tidemark/tidemark/DecimalWritePinLaw -/
def k1 : Class := { plain "com/example/tidemark/tidemark/DecimalWritePinLaw" (some 0) with
  accessFlags := 49
  interfaces := #[]
  cf := some (fileOf pool1 50 #[] #[{ accessFlags := 2, nameIndex := 5, descriptorIndex := 6, attributes := #[] }, { accessFlags := 10, nameIndex := 53, descriptorIndex := 54, attributes := #[] }, { accessFlags := 9, nameIndex := 66, descriptorIndex := 67, attributes := #[] }] 49 2 #[] #[])
  fields := #[]
  methods := #[k1m0, k1m1, k1m2]
  instanceTypes := #[]
  staticTypes := #[]
  resolved := Array.replicate 72 none
  statics := none }

def pool2 : Array CpInfo := pool [(2, .class_ 4), (1, u "java/lang/Object"), (0, u "<init>"), (0, u "()V"), (2, .class_ 10), (0, u "com/example/tidemark/tidemark/Decimal"), (7, .long 9223372036854775808), (1, .long 10), (5, u "parse"), (0, u "([BII)J"), (2, u "write"), (0, u "(J[BI)I"), (6, .long 48), (1, u "MAX_LENGTH"), (0, u "I"), (2, u "NOT_DECIMAL"), (0, u "Ljava/lang/String;"), (0, u "OUT_OF_RANGE")] 8

def k2m0 : Method := { name := "<init>", desc := "()V", sig := { parameters := [], returnType := none }, accessFlags := 2, code := none }
def k2c1 : Code := { maxStack := 6, maxLocals := 9, code := prog_50_method_2_code, exceptionTable := #[], attributes := #[] }
def k2m1 : Method := { name := "parse", desc := "([BII)J", sig := { parameters := [(.array .byte), .int, .int], returnType := some .long }, accessFlags := 8, code := some k2c1 }
def k2c2 : Code := { maxStack := 8, maxLocals := 11, code := prog_50_method_5_code, exceptionTable := #[], attributes := #[] }
def k2m2 : Method := { name := "write", desc := "(J[BI)I", sig := { parameters := [.long, (.array .byte), .int], returnType := some .int }, accessFlags := 8, code := some k2c2 }
/-- com/example/tidemark/tidemark/Decimal -/
def k2 : Class := { plain "com/example/tidemark/tidemark/Decimal" (some 0) with
  accessFlags := 48
  interfaces := #[]
  cf := some (fileOf pool2 9 #[] #[{ accessFlags := 2, nameIndex := 5, descriptorIndex := 6, attributes := #[] }, { accessFlags := 8, nameIndex := 26, descriptorIndex := 27, attributes := #[] }, { accessFlags := 8, nameIndex := 30, descriptorIndex := 31, attributes := #[] }] 48 2 #[] #[{ accessFlags := 24, nameIndex := 40, descriptorIndex := 41, attributes := #[] }, { accessFlags := 26, nameIndex := 44, descriptorIndex := 45, attributes := #[] }, { accessFlags := 26, nameIndex := 46, descriptorIndex := 45, attributes := #[] }])
  fields := #[{ name := "MAX_LENGTH", type := .int, accessFlags := 24, slot := 0, constantValue := 0 }, { name := "NOT_DECIMAL", type := (.object "java/lang/String"), accessFlags := 26, slot := 1, constantValue := 0 }, { name := "OUT_OF_RANGE", type := (.object "java/lang/String"), accessFlags := 26, slot := 2, constantValue := 0 }]
  methods := #[k2m0, k2m1, k2m2]
  instanceTypes := #[]
  staticTypes := #[.int, (.object "java/lang/String"), (.object "java/lang/String")]
  resolved := Array.replicate 55 none
  statics := none }

def pool3 : Array CpInfo := pool [(1, u "java/lang/Cloneable"), (0, .class_ 1), (0, u "java/lang/Object"), (0, .class_ 3)] 3

/-- java/lang/Cloneable -/
def k3 : Class := { plain "java/lang/Cloneable" (some 0) with
  accessFlags := 1537
  interfaces := #[]
  cf := some (fileOf pool3 2 #[] #[] 1537 4 #[] #[])
  fields := #[]
  methods := #[]
  instanceTypes := #[]
  staticTypes := #[]
  resolved := Array.replicate 8 none
  statics := none }

def pool4 : Array CpInfo := pool [(1, u "java/io/Serializable"), (0, .class_ 1), (0, u "java/lang/Object"), (0, .class_ 3)] 3

/-- java/io/Serializable -/
def k4 : Class := { plain "java/io/Serializable" (some 0) with
  accessFlags := 1537
  interfaces := #[]
  cf := some (fileOf pool4 2 #[] #[] 1537 4 #[] #[])
  fields := #[]
  methods := #[]
  instanceTypes := #[]
  staticTypes := #[]
  resolved := Array.replicate 8 none
  statics := none }

/-- the primitive byte -/
def k5 : Class := { plain "byte" none with kind := .primitive 'B', accessFlags := 0x411 }
/-- [B -/
def k6 : Class := { plain "[B" (some 0) with kind := .array 5 .byte, interfaces := #[3, 4], accessFlags := 1041 }

/-- the primitive int -/
def k7 : Class := { plain "int" none with kind := .primitive 'I', accessFlags := 0x411 }
/-- [I -/
def k8 : Class := { plain "[I" (some 0) with kind := .array 7 .int, interfaces := #[3, 4], accessFlags := 1041 }

def heap : Heap := #[]
def classes : Array Class := #[k0, k1, k2, k3, k4, k5, k6, k7, k8]
def interned : List (Array UInt16 × Addr) := []
def slotsUsed : Nat := 0
def theMethod : MethodId := ⟨1, 2⟩
def args0 : Array Value := #[.long 5, .int 1, .int 3]
def aboutOver (below : List Frame) : State where
  vm := { classes := classes, interned := interned.toArray }
  heap := heap
  slotsUsed := slotsUsed
  threads := #[{ frames := .invoking theMethod args0 :: below }]
def below0 : List Frame := [.native { method := ⟨0, 0⟩, args := #[] }]
def about1 : State := aboutOver below0
def p0 : Program := .bare "" "" ""
def e0 : Env := launch0.env 0 0 0
theorem w_frames : about1.frames = Frame.invoking theMethod args0 :: below0 := rfl
set_option maxRecDepth 65536 in
theorem w_args : argsFit about1.vm theMethod args0 = true := by decide +kernel
set_option maxRecDepth 65536 in
theorem w_heap : heapFits about1 = true := by decide +kernel
set_option maxRecDepth 65536 in
theorem w_runnable : about1.curStatus? = some .runnable := by decide +kernel
set_option maxRecDepth 65536 in
theorem w_alone : about1.alone = true := by decide +kernel
set_option maxRecDepth 65536 in
theorem w_named : about1.methodNamed? x = some theMethod := by decide +kernel
set_option maxRecDepth 65536 in
theorem w_hears : about1.hears theMethod below0 = true := by decide +kernel
set_option maxRecDepth 65536 in
theorem w_ripe : about1.ripe theMethod args0 below0 = true := by decide +kernel
theorem w_running : about1.status = .running := rfl
set_option maxRecDepth 65536 in
theorem w_room : about1.hasRoom e0.platform room_1 = true :=
  launch0.hasRoom_least _ room_1 (by decide +kernel) (by decide +kernel) (by decide +kernel) (by decide +kernel) (by decide +kernel) (by decide +kernel)
theorem allAtoms_all (ts : List Jvm.Cond) (a : Array Jvm.Value) (st : Jvm.State) : (allAtoms ts).before a st = ts.all (fun c => c.before a st) := by
  induction ts with
  | nil => rfl
  | cons c t ih =>
    show (Jvm.Cond.and c (allAtoms t)).before a st = _
    rw [Jvm.Cond.before_and, ih, List.all_cons]
def words1 : List Jvm.Cond := Jvm.Cond.code x code maxLocals ret :: tables_1
/-- a 'code' word, met by the world's own term for the bytes: nothing is compared byte by byte -/
theorem code_word {y : MethodName} {bytes : ByteArray} {mx : Nat} {rt : Option FieldType} {a : Array Value} {s : State} {m : MethodId} {meth : Method} {c : Code} (h1 : s.methodNamed? y = some m) (h2 : s.vm.method? m = some meth) (h3 : meth.code = some c) (h4 : c.code = bytes)
    (h5 : (c.maxLocals == mx && c.exceptionTable.isEmpty && decide (c.maxStack ≤ mostOperands) && decide (meth.sig.returnType = rt) && !meth.locks && decide (parseMethodDescriptor y.desc = some meth.sig)) = true) : (Jvm.Cond.code y bytes mx rt).before a s = true := by
  simp only [Bool.and_eq_true, beq_iff_eq, Bool.not_eq_true', decide_eq_true_eq] at h5
  obtain ⟨⟨⟨⟨⟨g1, g2⟩, g3⟩, g4⟩, g5⟩, g6⟩ := h5
  simp [Cond.before, Cond.holds, Cond.value, h1, h2, h3, h4, g1, g2, g3, g4, g5, g6]
def isCode : Jvm.Cond → Bool
  | .code _ _ _ _ => true
  | _ => false
theorem all_split {L : List Jvm.Cond} {P : Jvm.Cond → Bool} (h1 : L.all (fun c => isCode c || P c) = true) (h2 : ∀ c ∈ L.filter isCode, P c = true) : L.all P = true := by
  refine List.all_eq_true.mpr fun c hc => ?_
  have h := List.all_eq_true.mp h1 c hc
  rcases Bool.eq_false_or_eq_true (isCode c) with hi | hi
  · exact h2 c (List.mem_filter.mpr ⟨hc, hi⟩)
  · simpa [hi] using h
set_option maxRecDepth 65536 in
theorem w_c0 : (Jvm.Cond.code x code maxLocals ret).before args0 about1 = true := code_word (m := ⟨1, 2⟩) (meth := k1m2) (c := k1c2) (by decide +kernel) rfl rfl rfl (by decide +kernel)
set_option maxRecDepth 65536 in
theorem w_c1 : (Jvm.Cond.code ({ cls := "com/example/tidemark/tidemark/Decimal", name := "write", desc := "(J[BI)I" } : Jvm.MethodName) prog_50_method_5_code (11 : Nat) (Option.some Jvm.ClassFile.FieldType.int)).before args0 about1 = true := code_word (m := ⟨2, 2⟩) (meth := k2m2) (c := k2c2) (by decide +kernel) rfl rfl rfl (by decide +kernel)
set_option maxRecDepth 65536 in
theorem w_c2 : (Jvm.Cond.code ({ cls := "com/example/tidemark/tidemark/DecimalWritePinLaw", name := "digits", desc := "(J)I" } : Jvm.MethodName) method_2_code (2 : Nat) (Option.some Jvm.ClassFile.FieldType.int)).before args0 about1 = true := code_word (m := ⟨1, 1⟩) (meth := k1m1) (c := k1c1) (by decide +kernel) rfl rfl rfl (by decide +kernel)
set_option maxRecDepth 65536 in
theorem w_c3 : (Jvm.Cond.code ({ cls := "com/example/tidemark/tidemark/Decimal", name := "parse", desc := "([BII)J" } : Jvm.MethodName) prog_50_method_2_code (9 : Nat) (Option.some Jvm.ClassFile.FieldType.long)).before args0 about1 = true := code_word (m := ⟨2, 1⟩) (meth := k2m1) (c := k2c1) (by decide +kernel) rfl rfl rfl (by decide +kernel)
def codes1 : List Jvm.Cond := [Jvm.Cond.code x code maxLocals ret, Jvm.Cond.code ({ cls := "com/example/tidemark/tidemark/Decimal", name := "write", desc := "(J[BI)I" } : Jvm.MethodName) prog_50_method_5_code (11 : Nat) (Option.some Jvm.ClassFile.FieldType.int), Jvm.Cond.code ({ cls := "com/example/tidemark/tidemark/DecimalWritePinLaw", name := "digits", desc := "(J)I" } : Jvm.MethodName) method_2_code (2 : Nat) (Option.some Jvm.ClassFile.FieldType.int), Jvm.Cond.code ({ cls := "com/example/tidemark/tidemark/Decimal", name := "parse", desc := "([BII)J" } : Jvm.MethodName) prog_50_method_2_code (9 : Nat) (Option.some Jvm.ClassFile.FieldType.long)]
set_option maxRecDepth 65536 in
theorem codes_eq : words1.filter isCode = codes1 := rfl
theorem w_codes : ∀ c ∈ words1.filter isCode, c.before args0 about1 = true := by
  rw [codes_eq]
  intro c hc
  simp only [codes1, List.mem_cons, List.not_mem_nil, or_false] at hc
  rcases hc with rfl | rfl | rfl | rfl
  · exact w_c0
  · exact w_c1
  · exact w_c2
  · exact w_c3
set_option maxRecDepth 65536 in
theorem w_t1 : (words1.take 24).all (fun c => isCode c || c.before args0 about1) = true := by decide +kernel
set_option maxRecDepth 65536 in
theorem w_t2 : (words1.drop 24).all (fun c => isCode c || c.before args0 about1) = true := by decide +kernel
theorem w_tables : (allAtoms (Jvm.Cond.code x code maxLocals ret :: tables_1)).before args0 about1 = true := by
  rw [allAtoms_all]
  show words1.all (fun c => c.before args0 about1) = true
  refine all_split ?_ w_codes
  rw [← List.take_append_drop 24 words1, List.all_append, w_t1, w_t2]
  rfl
set_option maxRecDepth 65536 in
theorem w_case : (Jvm.Cond.and given_1 narrow_1).before args0 about1 = true := by decide +kernel
theorem w_applies : (headSpec (Jvm.Cond.code x code maxLocals ret :: tables_1) room_1).applies x e0.platform about1 = true :=
  (Spec.applies_iff w_frames).mpr ⟨w_running, w_runnable, w_alone, w_named, w_hears, w_ripe, w_room, w_tables⟩
theorem atStart : AtStart classFile x code maxLocals ret World_1 tables_1 room_1 Calls_1 rest_1 Pre_1 launch0 p0 e0 about1 theMethod args0 below0 :=
  ⟨lists_1, trivial, launch0.admits_env _ _ _, launch0.least_env, fairChoices_fair.cas, fairChoices_fair.clock, w_frames, w_args, w_heap, w_applies, trivial, trivial, w_case⟩
end start1
theorem witness_1 : WitnessClaimed_1 := ⟨start1.p0, start1.e0, start1.about1, start1.theMethod, start1.args0, start1.below0, start1.atStart⟩
end Jvm.Pilot.@@N@@
